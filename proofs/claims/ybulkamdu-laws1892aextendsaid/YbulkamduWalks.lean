/-
  The walks over seat b1892a: signOf, math/bits.Add64, the two laws.
-/
import Derived.Test.YbulkamduRows
import Derived.WalkKit
import Derived.RowKit3
namespace Go.Proofs.Ybulkamdu
open Go.RowKit

/-- math/bits.Add64, by the model's entry. -/
theorem add64 (x y c : Int) (hx : 0 ≤ x) (hy : 0 ≤ y) (hc0 : 0 ≤ c) (hc : c ≤ 1) (w : World) : (callFunc 6 #[.int .u64 x, .int .u64 y, .int .u64 c]).run Yba.prog w =
    .ok (.value (.tuple #[.int .u64 ((x + y + c) % 18446744073709551616), .int .u64 ((x + y + c) / 18446744073709551616)])) w := by
  rw [run_callFunc_extern Yba.func6 (by kernel_rfl) (by kernel_rfl) (by kernel_rfl) (e := add64Entry) (by kernel_rfl), run_add64 x y c hx hy hc0 hc]
  simp only [Result.andThen]
theorem add64_0 (x y : Int) (hx : 0 ≤ x) (hy : 0 ≤ y) (w : World) : (callFunc 6 #[.int .u64 x, .int .u64 y, .int .u64 0]).run Yba.prog w =
    .ok (.value (.tuple #[.int .u64 ((x + y) % 18446744073709551616), .int .u64 ((x + y) / 18446744073709551616)])) w := by
  simpa using add64 x y 0 hx hy (Int.le_refl 0) (by decide) w

/-- signOf of a low word. -/
def sgn (x : Int) : Int := if x < 9223372036854775808 then 0 else 18446744073709551615

theorem sign_any (x : Int) (h0 : 0 ≤ x) (h1 : x < 18446744073709551616) (w : World) :
    Calls Yba.prog 5 #[.int .u64 x] w fun e w' => e = .returned (.int .u64 (sgn x)) ∧ w' = w := by
  unfold sgn
  by_cases h : x < 9223372036854775808
  · have hw : wrap64 x = x := by unfold wrap64; omega
    rw [if_pos h]
    go_enter Yba.func5, Yba.ntmps5
    go_wp2
    go_ret
    exact ⟨rfl, rfl⟩
  · have hw : wrap64 x < 0 := by unfold wrap64; omega
    rw [if_neg h]
    go_enter Yba.func5, Yba.ntmps5
    go_wp2
    go_ret
    exact ⟨rfl, rfl⟩

theorem exact_any (x : Int) (h0 : 0 ≤ x) (h1 : x < 18446744073709551616) (w : World) :
    Calls Yba.prog 3 #[.int .u64 x] w fun e w' => e = .returned (.bool true) ∧ w' = w := by
  by_cases h : x < 9223372036854775808
  · have hd : (x / 9223372036854775808 == 1) = false := by simp only [beq_eq_false_iff_ne, ne_eq]; omega
    have hc : ∀ w, Calls Yba.prog 5 #[.int .u64 x] w fun e w' => e = .returned (.int .u64 0) ∧ w' = w := fun w => by
      have := sign_any x h0 h1 w
      unfold sgn at this
      rwa [if_pos h] at this
    go_enter Yba.func3, Yba.ntmps3
    go_wp2_with (go_at_call 5; refine (hc _).mono ?_; rintro e w' ⟨rfl, rfl⟩)
    go_ret
    exact ⟨rfl, rfl⟩
  · have hd : (x / 9223372036854775808 == 1) = true := by simp only [beq_iff_eq]; omega
    have hc : ∀ w, Calls Yba.prog 5 #[.int .u64 x] w fun e w' => e = .returned (.int .u64 18446744073709551615) ∧ w' = w := fun w => by
      have := sign_any x h0 h1 w
      unfold sgn at this
      rwa [if_neg h] at this
    go_enter Yba.func3, Yba.ntmps3
    go_wp2_with (go_at_call 5; refine (hc _).mono ?_; rintro e w' ⟨rfl, rfl⟩)
    go_ret
    exact ⟨rfl, rfl⟩

theorem add64_at (x y c l d : Int) (hx : 0 ≤ x) (hy : 0 ≤ y) (hc0 : 0 ≤ c) (hc : c ≤ 1) (hl0 : 0 ≤ l) (hl : l < 18446744073709551616) (h : x + y + c = l + d * 18446744073709551616) (w : World) :
    (callFunc 6 #[.int .u64 x, .int .u64 y, .int .u64 c]).run Yba.prog w = .ok (.value (.tuple #[.int .u64 l, .int .u64 d])) w := by
  rw [add64 x y c hx hy hc0 hc w, show (x + y + c) % 18446744073709551616 = l by omega, show (x + y + c) / 18446744073709551616 = d by omega]
theorem sign_pos (x : Int) (h0 : 0 ≤ x) (h : x < 9223372036854775808) (w : World) : Calls Yba.prog 5 #[.int .u64 x] w fun e w' => e = .returned (.int .u64 0) ∧ w' = w := by
  have := sign_any x h0 (by omega) w
  unfold sgn at this
  rwa [if_pos h] at this
theorem sign_neg (x : Int) (h0 : 9223372036854775808 ≤ x) (h : x < 18446744073709551616) (w : World) : Calls Yba.prog 5 #[.int .u64 x] w fun e w' => e = .returned (.int .u64 18446744073709551615) ∧ w' = w := by
  have := sign_any x (by omega) (by omega) w
  unfold sgn at this
  rwa [if_neg (by omega)] at this
/-- A negative int64 as a uint64. -/
theorem neg_word (x : Int) (h0 : -9223372036854775808 ≤ x) (h : x < 0) : ∃ X, IntKind.u64.wrap x = X ∧ X = x + 18446744073709551616 :=
  ⟨_, rfl, by simp [IntKind.wrap, IntKind.signed, IntKind.bits]; omega⟩
theorem ext_ppp (x y : Int) (h0 : -9223372036854775808 ≤ x) (h1 : x ≤ 9223372036854775807) (k0 : -9223372036854775808 ≤ y) (k1 : y ≤ 9223372036854775807) (hx : 0 ≤ x) (hy : 0 ≤ y) (hs : x + y ≤ 9223372036854775807) (w : World) :
    Calls Yba.prog 4 #[.int .i64 x, .int .i64 y] w fun e w' => e = .returned (.bool true) ∧ w' = w := by
  have a1 : ∀ w, (callFunc 6 #[.int .u64 x, .int .u64 y, .int .u64 0]).run Yba.prog w = .ok (.value (.tuple #[.int .u64 (x + y), .int .u64 0])) w := add64_at x y 0 (x + y) 0 (by omega) (by omega) (by omega) (by omega) (by omega) (by omega) (by omega)
  have a2 : ∀ w, (callFunc 6 #[.int .u64 0, .int .u64 0, .int .u64 0]).run Yba.prog w = .ok (.value (.tuple #[.int .u64 0, .int .u64 0])) w := add64_at 0 0 0 0 0 (by omega) (by omega) (by omega) (by omega) (by omega) (by omega) (by omega)
  have sX : ∀ w, Calls Yba.prog 5 #[.int .u64 x] w fun e w' => e = .returned (.int .u64 0) ∧ w' = w := sign_pos x (by omega) (by omega)
  have sY : ∀ w, Calls Yba.prog 5 #[.int .u64 y] w fun e w' => e = .returned (.int .u64 0) ∧ w' = w := sign_pos y (by omega) (by omega)
  have sL : ∀ w, Calls Yba.prog 5 #[.int .u64 (x + y)] w fun e w' => e = .returned (.int .u64 0) ∧ w' = w := sign_pos (x + y) (by omega) (by omega)
  go_enter Yba.func4, Yba.ntmps4
  go_wp2_with (first | (go_at_call 5; refine (sX _).mono ?_; rintro e w' ⟨rfl, rfl⟩) | (go_at_call 5; refine (sY _).mono ?_; rintro e w' ⟨rfl, rfl⟩) | (go_at_call 5; refine (sL _).mono ?_; rintro e w' ⟨rfl, rfl⟩))
  all_goals (go_ret; exact ⟨rfl, rfl⟩)
theorem ext_pnp (x y : Int) (h0 : -9223372036854775808 ≤ x) (h1 : x ≤ 9223372036854775807) (k0 : -9223372036854775808 ≤ y) (k1 : y ≤ 9223372036854775807) (hx : 0 ≤ x) (hy : y < 0) (hs : 0 ≤ x + y) (w : World) :
    Calls Yba.prog 4 #[.int .i64 x, .int .i64 y] w fun e w' => e = .returned (.bool true) ∧ w' = w := by
  obtain ⟨Y, eY, dY⟩ := neg_word y k0 hy
  have a1 : ∀ w, (callFunc 6 #[.int .u64 x, .int .u64 Y, .int .u64 0]).run Yba.prog w = .ok (.value (.tuple #[.int .u64 (x + y), .int .u64 1])) w := add64_at x Y 0 (x + y) 1 (by omega) (by omega) (by omega) (by omega) (by omega) (by omega) (by omega)
  have a2 : ∀ w, (callFunc 6 #[.int .u64 0, .int .u64 18446744073709551615, .int .u64 1]).run Yba.prog w = .ok (.value (.tuple #[.int .u64 0, .int .u64 1])) w := add64_at 0 18446744073709551615 1 0 1 (by omega) (by omega) (by omega) (by omega) (by omega) (by omega) (by omega)
  have sX : ∀ w, Calls Yba.prog 5 #[.int .u64 x] w fun e w' => e = .returned (.int .u64 0) ∧ w' = w := sign_pos x (by omega) (by omega)
  have sY : ∀ w, Calls Yba.prog 5 #[.int .u64 Y] w fun e w' => e = .returned (.int .u64 18446744073709551615) ∧ w' = w := sign_neg Y (by omega) (by omega)
  have sL : ∀ w, Calls Yba.prog 5 #[.int .u64 (x + y)] w fun e w' => e = .returned (.int .u64 0) ∧ w' = w := sign_pos (x + y) (by omega) (by omega)
  clear dY
  go_enter Yba.func4, Yba.ntmps4
  go_wp2_with (first | (go_at_call 5; refine (sX _).mono ?_; rintro e w' ⟨rfl, rfl⟩) | (go_at_call 5; refine (sY _).mono ?_; rintro e w' ⟨rfl, rfl⟩) | (go_at_call 5; refine (sL _).mono ?_; rintro e w' ⟨rfl, rfl⟩))
  all_goals (go_ret; exact ⟨rfl, rfl⟩)
theorem ext_pnn (x y : Int) (h0 : -9223372036854775808 ≤ x) (h1 : x ≤ 9223372036854775807) (k0 : -9223372036854775808 ≤ y) (k1 : y ≤ 9223372036854775807) (hx : 0 ≤ x) (hy : y < 0) (hs : x + y < 0) (w : World) :
    Calls Yba.prog 4 #[.int .i64 x, .int .i64 y] w fun e w' => e = .returned (.bool true) ∧ w' = w := by
  obtain ⟨Y, eY, dY⟩ := neg_word y k0 hy
  obtain ⟨L, eL, dL⟩ := neg_word (x + y) (by omega) hs
  have a1 : ∀ w, (callFunc 6 #[.int .u64 x, .int .u64 Y, .int .u64 0]).run Yba.prog w = .ok (.value (.tuple #[.int .u64 L, .int .u64 0])) w := add64_at x Y 0 L 0 (by omega) (by omega) (by omega) (by omega) (by omega) (by omega) (by omega)
  have a2 : ∀ w, (callFunc 6 #[.int .u64 0, .int .u64 18446744073709551615, .int .u64 0]).run Yba.prog w = .ok (.value (.tuple #[.int .u64 18446744073709551615, .int .u64 0])) w := add64_at 0 18446744073709551615 0 18446744073709551615 0 (by omega) (by omega) (by omega) (by omega) (by omega) (by omega) (by omega)
  have sX : ∀ w, Calls Yba.prog 5 #[.int .u64 x] w fun e w' => e = .returned (.int .u64 0) ∧ w' = w := sign_pos x (by omega) (by omega)
  have sY : ∀ w, Calls Yba.prog 5 #[.int .u64 Y] w fun e w' => e = .returned (.int .u64 18446744073709551615) ∧ w' = w := sign_neg Y (by omega) (by omega)
  have sL : ∀ w, Calls Yba.prog 5 #[.int .u64 L] w fun e w' => e = .returned (.int .u64 18446744073709551615) ∧ w' = w := sign_neg L (by omega) (by omega)
  clear dY dL
  go_enter Yba.func4, Yba.ntmps4
  go_wp2_with (first | (go_at_call 5; refine (sX _).mono ?_; rintro e w' ⟨rfl, rfl⟩) | (go_at_call 5; refine (sY _).mono ?_; rintro e w' ⟨rfl, rfl⟩) | (go_at_call 5; refine (sL _).mono ?_; rintro e w' ⟨rfl, rfl⟩))
  all_goals (go_ret; exact ⟨rfl, rfl⟩)
theorem ext_npp (x y : Int) (h0 : -9223372036854775808 ≤ x) (h1 : x ≤ 9223372036854775807) (k0 : -9223372036854775808 ≤ y) (k1 : y ≤ 9223372036854775807) (hx : x < 0) (hy : 0 ≤ y) (hs : 0 ≤ x + y) (w : World) :
    Calls Yba.prog 4 #[.int .i64 x, .int .i64 y] w fun e w' => e = .returned (.bool true) ∧ w' = w := by
  obtain ⟨X, eX, dX⟩ := neg_word x h0 hx
  have a1 : ∀ w, (callFunc 6 #[.int .u64 X, .int .u64 y, .int .u64 0]).run Yba.prog w = .ok (.value (.tuple #[.int .u64 (x + y), .int .u64 1])) w := add64_at X y 0 (x + y) 1 (by omega) (by omega) (by omega) (by omega) (by omega) (by omega) (by omega)
  have a2 : ∀ w, (callFunc 6 #[.int .u64 18446744073709551615, .int .u64 0, .int .u64 1]).run Yba.prog w = .ok (.value (.tuple #[.int .u64 0, .int .u64 1])) w := add64_at 18446744073709551615 0 1 0 1 (by omega) (by omega) (by omega) (by omega) (by omega) (by omega) (by omega)
  have sX : ∀ w, Calls Yba.prog 5 #[.int .u64 X] w fun e w' => e = .returned (.int .u64 18446744073709551615) ∧ w' = w := sign_neg X (by omega) (by omega)
  have sY : ∀ w, Calls Yba.prog 5 #[.int .u64 y] w fun e w' => e = .returned (.int .u64 0) ∧ w' = w := sign_pos y (by omega) (by omega)
  have sL : ∀ w, Calls Yba.prog 5 #[.int .u64 (x + y)] w fun e w' => e = .returned (.int .u64 0) ∧ w' = w := sign_pos (x + y) (by omega) (by omega)
  clear dX
  go_enter Yba.func4, Yba.ntmps4
  go_wp2_with (first | (go_at_call 5; refine (sX _).mono ?_; rintro e w' ⟨rfl, rfl⟩) | (go_at_call 5; refine (sY _).mono ?_; rintro e w' ⟨rfl, rfl⟩) | (go_at_call 5; refine (sL _).mono ?_; rintro e w' ⟨rfl, rfl⟩))
  all_goals (go_ret; exact ⟨rfl, rfl⟩)
theorem ext_npn (x y : Int) (h0 : -9223372036854775808 ≤ x) (h1 : x ≤ 9223372036854775807) (k0 : -9223372036854775808 ≤ y) (k1 : y ≤ 9223372036854775807) (hx : x < 0) (hy : 0 ≤ y) (hs : x + y < 0) (w : World) :
    Calls Yba.prog 4 #[.int .i64 x, .int .i64 y] w fun e w' => e = .returned (.bool true) ∧ w' = w := by
  obtain ⟨X, eX, dX⟩ := neg_word x h0 hx
  obtain ⟨L, eL, dL⟩ := neg_word (x + y) (by omega) hs
  have a1 : ∀ w, (callFunc 6 #[.int .u64 X, .int .u64 y, .int .u64 0]).run Yba.prog w = .ok (.value (.tuple #[.int .u64 L, .int .u64 0])) w := add64_at X y 0 L 0 (by omega) (by omega) (by omega) (by omega) (by omega) (by omega) (by omega)
  have a2 : ∀ w, (callFunc 6 #[.int .u64 18446744073709551615, .int .u64 0, .int .u64 0]).run Yba.prog w = .ok (.value (.tuple #[.int .u64 18446744073709551615, .int .u64 0])) w := add64_at 18446744073709551615 0 0 18446744073709551615 0 (by omega) (by omega) (by omega) (by omega) (by omega) (by omega) (by omega)
  have sX : ∀ w, Calls Yba.prog 5 #[.int .u64 X] w fun e w' => e = .returned (.int .u64 18446744073709551615) ∧ w' = w := sign_neg X (by omega) (by omega)
  have sY : ∀ w, Calls Yba.prog 5 #[.int .u64 y] w fun e w' => e = .returned (.int .u64 0) ∧ w' = w := sign_pos y (by omega) (by omega)
  have sL : ∀ w, Calls Yba.prog 5 #[.int .u64 L] w fun e w' => e = .returned (.int .u64 18446744073709551615) ∧ w' = w := sign_neg L (by omega) (by omega)
  clear dX dL
  go_enter Yba.func4, Yba.ntmps4
  go_wp2_with (first | (go_at_call 5; refine (sX _).mono ?_; rintro e w' ⟨rfl, rfl⟩) | (go_at_call 5; refine (sY _).mono ?_; rintro e w' ⟨rfl, rfl⟩) | (go_at_call 5; refine (sL _).mono ?_; rintro e w' ⟨rfl, rfl⟩))
  all_goals (go_ret; exact ⟨rfl, rfl⟩)
theorem ext_nnn (x y : Int) (h0 : -9223372036854775808 ≤ x) (h1 : x ≤ 9223372036854775807) (k0 : -9223372036854775808 ≤ y) (k1 : y ≤ 9223372036854775807) (hx : x < 0) (hy : y < 0) (ho : -9223372036854775808 ≤ x + y) (hs : x + y < 0) (w : World) :
    Calls Yba.prog 4 #[.int .i64 x, .int .i64 y] w fun e w' => e = .returned (.bool true) ∧ w' = w := by
  obtain ⟨X, eX, dX⟩ := neg_word x h0 hx
  obtain ⟨Y, eY, dY⟩ := neg_word y k0 hy
  obtain ⟨L, eL, dL⟩ := neg_word (x + y) (by omega) hs
  have a1 : ∀ w, (callFunc 6 #[.int .u64 X, .int .u64 Y, .int .u64 0]).run Yba.prog w = .ok (.value (.tuple #[.int .u64 L, .int .u64 1])) w := add64_at X Y 0 L 1 (by omega) (by omega) (by omega) (by omega) (by omega) (by omega) (by omega)
  have a2 : ∀ w, (callFunc 6 #[.int .u64 18446744073709551615, .int .u64 18446744073709551615, .int .u64 1]).run Yba.prog w = .ok (.value (.tuple #[.int .u64 18446744073709551615, .int .u64 1])) w := add64_at 18446744073709551615 18446744073709551615 1 18446744073709551615 1 (by omega) (by omega) (by omega) (by omega) (by omega) (by omega) (by omega)
  have sX : ∀ w, Calls Yba.prog 5 #[.int .u64 X] w fun e w' => e = .returned (.int .u64 18446744073709551615) ∧ w' = w := sign_neg X (by omega) (by omega)
  have sY : ∀ w, Calls Yba.prog 5 #[.int .u64 Y] w fun e w' => e = .returned (.int .u64 18446744073709551615) ∧ w' = w := sign_neg Y (by omega) (by omega)
  have sL : ∀ w, Calls Yba.prog 5 #[.int .u64 L] w fun e w' => e = .returned (.int .u64 18446744073709551615) ∧ w' = w := sign_neg L (by omega) (by omega)
  clear dX dY dL
  go_enter Yba.func4, Yba.ntmps4
  go_wp2_with (first | (go_at_call 5; refine (sX _).mono ?_; rintro e w' ⟨rfl, rfl⟩) | (go_at_call 5; refine (sY _).mono ?_; rintro e w' ⟨rfl, rfl⟩) | (go_at_call 5; refine (sL _).mono ?_; rintro e w' ⟨rfl, rfl⟩))
  all_goals (go_ret; exact ⟨rfl, rfl⟩)
/-- The sum of two that are not negative runs over. -/
theorem ext_over (x y : Int) (h0 : 0 ≤ x) (h1 : x ≤ 9223372036854775807) (k0 : 0 ≤ y) (k1 : y ≤ 9223372036854775807) (hs : 9223372036854775807 < x + y) (w : World) :
    Calls Yba.prog 4 #[.int .i64 x, .int .i64 y] w fun e w' => e = .returned (.bool true) ∧ w' = w := by
  have hd : (!decide (0 ≤ wrap64 (x + y))) = true := by simp [wrap64]; omega
  go_enter Yba.func4, Yba.ntmps4
  go_wp2
  go_ret
  exact ⟨rfl, rfl⟩
/-- The sum of two negative ones runs under. -/
theorem ext_under (x y : Int) (h0 : -9223372036854775808 ≤ x) (h1 : x < 0) (k0 : -9223372036854775808 ≤ y) (k1 : y < 0) (hs : x + y < -9223372036854775808) (w : World) :
    Calls Yba.prog 4 #[.int .i64 x, .int .i64 y] w fun e w' => e = .returned (.bool true) ∧ w' = w := by
  have hd : 0 ≤ wrap64 (x + y) := by simp [wrap64]; omega
  have hxd : decide (0 ≤ x) = false := decide_eq_false (by omega)
  have hyd : decide (0 ≤ y) = false := decide_eq_false (by omega)
  go_enter Yba.func4, Yba.ntmps4
  go_wp2
  go_ret
  exact ⟨rfl, rfl⟩

theorem extend_any (x y : Int) (h0 : -9223372036854775808 ≤ x) (h1 : x ≤ 9223372036854775807) (k0 : -9223372036854775808 ≤ y) (k1 : y ≤ 9223372036854775807) (w : World) :
    Calls Yba.prog 4 #[.int .i64 x, .int .i64 y] w fun e w' => e = .returned (.bool true) ∧ w' = w := by
  by_cases hx : 0 ≤ x
  · by_cases hy : 0 ≤ y
    · by_cases hs : x + y ≤ 9223372036854775807
      · exact ext_ppp x y h0 h1 k0 k1 hx hy hs w
      · exact ext_over x y hx h1 hy k1 (by omega) w
    · by_cases hs : 0 ≤ x + y
      · exact ext_pnp x y h0 h1 k0 k1 hx (by omega) hs w
      · exact ext_pnn x y h0 h1 k0 k1 hx (by omega) (by omega) w
  · by_cases hy : 0 ≤ y
    · by_cases hs : 0 ≤ x + y
      · exact ext_npp x y h0 h1 k0 k1 (by omega) hy hs w
      · exact ext_npn x y h0 h1 k0 k1 (by omega) hy (by omega) w
    · by_cases hs : -9223372036854775808 ≤ x + y
      · exact ext_nnn x y h0 h1 k0 k1 (by omega) (by omega) hs (by omega) w
      · exact ext_under x y h0 (by omega) k0 (by omega) (by omega) w
end Go.Proofs.Ybulkamdu
