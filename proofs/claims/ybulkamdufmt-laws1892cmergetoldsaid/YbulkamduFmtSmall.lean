/-
  The small functions on the road, each by its contract: series.FloatValue, (Value).Type, must, Float; (Type).IsNumber; cmp.isNaN, cmp.Compare at float64; math.Abs, IsInf, IsNaN; storage.finite; (*Summary).setFloat.
-/
import Derived.Test.YbulkamduFmtRows
import Derived.Test.YbulkamduFmtNums
import Derived.WalkKit
import Derived.WalkSpells
import Derived.RowKit3
import Derived.Deep.QuietTactic
import Derived.BigQuiet
namespace Go.Proofs.YbulkamduFmt
open Go.RowKit

/-- A float, stored (the base has this law of integers, bools, pointers, slices, strings). -/
theorem run_store_float {P : Program} (w : World) (a : Addr) (m : Mode) (k : FloatKind) (x : Nat) : (store a (.float k x) m).run P w = stored P w a (.float k x) m := run_store P w a _ m rfl
attribute [local go_sem] run_store_float

/-! ### math.Float64bits, math.Float64frombits: the model's entries -/
theorem run_bits (b : Nat) (w : World) : (callFunc 14 #[.float .f64 b]).run Ybaf.prog w = .ok (.value (.int .u64 b)) w := by
  rw [run_callFunc_extern Ybaf.func14 (by kernel_rfl) (by kernel_rfl) (by kernel_rfl) (e := Extern.MathFloatBits.float64bits) (by kernel_rfl)]
  rfl
theorem run_frombits (b : Nat) (w : World) : (callFunc 40 #[.int .u64 (b : Int)]).run Ybaf.prog w = .ok (.value (.float .f64 b)) w := by
  rw [run_callFunc_extern Ybaf.func40 (by kernel_rfl) (by kernel_rfl) (by kernel_rfl) (e := Extern.MathFloatBits.float64frombits) (by kernel_rfl)]
  rfl

/-- series.FloatValue. -/
theorem floatValue (b : Nat) (w : World) : Calls Ybaf.prog 7 #[.float .f64 b] w fun e w' =>
    e = .returned (.agg #[.int .u8 1, .int .u64 b, .string { data := #[] }]) ∧ ∃ c, w' = w.alloc (.cells c 26) := by
  go_enter Ybaf.func7, Ybaf.ntmps7
  go_wp2_with (simp only [run_bits])
  refine bodyPost_ret (v := .agg #[.int .u8 1, .int .u64 b, .string { data := #[] }]) (by simp [results, Ybaf.results7, go_sem]) rfl ⟨rfl, _, rfl⟩

theorem isNumber1 (w : World) : Calls Ybaf.prog 10 #[.int .u8 1] w fun e w' => e = .returned (.bool true) ∧ w' = w := by
  go_enter Ybaf.func10, Ybaf.ntmps10
  go_wp2
  go_ret
  exact ⟨rfl, rfl⟩
theorem isNumber0 (w : World) : Calls Ybaf.prog 10 #[.int .u8 0] w fun e w' => e = .returned (.bool false) ∧ w' = w := by
  go_enter Ybaf.func10, Ybaf.ntmps10
  go_wp2
  go_ret
  exact ⟨rfl, rfl⟩

theorem valueType (t b : Int) (s : ByteArray) (w : World) : Calls Ybaf.prog 35 #[.agg #[.int .u8 t, .int .u64 b, .string s]] w fun e w' => e = .returned (.int .u8 t) ∧ w' = w.alloc (.cells #[.int .u8 t, .int .u64 b, .string s] 26) := by
  go_enter Ybaf.func35, Ybaf.ntmps35
  go_wp2
  go_ret
  exact ⟨rfl, rfl⟩

theorem must1 (b : Int) (s : ByteArray) (w : World) : Calls Ybaf.prog 39 #[.agg #[.int .u8 1, .int .u64 b, .string s], .int .u8 1] w fun e w' => e = .returned (.tuple #[]) ∧ w' = w.alloc (.cells #[.int .u8 1, .int .u64 b, .string s] 26) := by
  go_enter Ybaf.func39, Ybaf.ntmps39
  go_wp2
  go_end0
  exact ⟨rfl, rfl⟩

theorem valueFloat (b : Nat) (s : ByteArray) (w : World) : Calls Ybaf.prog 23 #[.agg #[.int .u8 1, .int .u64 b, .string s]] w fun e w' => e = .returned (.float .f64 b) ∧
    w' = (w.alloc (.cells #[.int .u8 1, .int .u64 b, .string s] 26)).alloc (.cells #[.int .u8 1, .int .u64 b, .string s] 26) := by
  go_enter Ybaf.func23, Ybaf.ntmps23
  go_wp2_with (first | simp only [run_frombits] | (go_at_call 39; refine (must1 _ _ _).mono ?_; rintro e w' ⟨rfl, rfl⟩))
  go_ret
  exact ⟨rfl, rfl⟩

theorem isNaN_any (x : Nat) (w : World) : Calls Ybaf.prog 38 #[.float .f64 x] w fun e w' => e = .returned (.bool ((FloatKind.format .f64).order x x != some .eq)) ∧ w' = w := by
  go_enter Ybaf.func38, Ybaf.ntmps38
  go_wp2
  go_ret
  exact ⟨rfl, rfl⟩

/-- cmp.Compare at float64: some whole number. -/
theorem compare_any (x y : Nat) (w : World) : Calls Ybaf.prog 21 #[.float .f64 x, .float .f64 y] w fun e w' => ∃ c : Int, e = .returned (.int .i64 c) ∧ w' = w := by
  go_enter Ybaf.func21, Ybaf.ntmps21
  go_wp2_with (go_at_call 38; refine (isNaN_any _ _).mono ?_; rintro e w' ⟨rfl, rfl⟩)
  all_goals (go_ret; exact ⟨_, rfl, rfl⟩)

theorem isNaN_G (a : Int) (ha : a.natAbs < 2 ^ 53) (w : World) : Calls Ybaf.prog 32 #[.float .f64 (G 0 a)] w fun e w' => e = .returned (.bool false) ∧ w' = w := by
  have h := self_G a ha
  go_enter Ybaf.func32, Ybaf.ntmps32
  go_wp2
  go_ret
  exact ⟨by simp, rfl⟩

theorem strike (x : Nat) (hx : x < 18446744073709551616) : bits .andNot .u64 (x : Int) 9223372036854775808 = ((x % 9223372036854775808 : Nat) : Int) := by
  have h := u64_andNot_nat x 9223372036854775808 hx (by decide)
  have e : x &&& (18446744073709551615 - 9223372036854775808) = x % 9223372036854775808 := Nat.and_two_pow_sub_one_eq_mod x 63
  rw [e] at h
  exact h

theorem abs_any (x : Nat) (hx : x < 18446744073709551616) (w : World) : Calls Ybaf.prog 44 #[.float .f64 x] w fun e w' => e = .returned (.float .f64 (x % 9223372036854775808)) ∧ w' = w := by
  have hr : ∀ w, (callFunc 40 #[.int .u64 (bits .andNot .u64 (x : Int) 9223372036854775808)]).run Ybaf.prog w = .ok (.value (.float .f64 (x % 9223372036854775808))) w := fun w => by
    rw [strike x hx]; exact run_frombits _ w
  go_enter Ybaf.func44, Ybaf.ntmps44
  go_wp2_with (first | simp only [run_bits] | simp only [hr])
  go_ret
  exact ⟨rfl, rfl⟩

theorem isInf_G (a : Int) (ha : a.natAbs < 2 ^ 53) (w : World) : Calls Ybaf.prog 31 #[.float .f64 (G 0 a), .int .i64 0] w fun e w' => e = .returned (.bool false) ∧ w' = w := by
  have hb := abs_any (G 0 a) (G_lt 0 a)
  rw [abs_G a ha] at hb
  have h := below_max (a.natAbs : Int) (by simpa using ha)
  go_enter Ybaf.func31, Ybaf.ntmps31
  go_wp2_with (go_at_call 44; refine (hb _).mono ?_; rintro e w' ⟨rfl, rfl⟩)
  go_ret
  exact ⟨by simp, rfl⟩

theorem finite_G (a : Int) (ha : a.natAbs < 2 ^ 53) (w : World) : Calls Ybaf.prog 18 #[.float .f64 (G 0 a)] w fun e w' => e = .returned (.bool true) ∧ w' = w := by
  go_enter Ybaf.func18, Ybaf.ntmps18
  go_wp2_with (first | (go_at_call 31; refine (isInf_G a ha _).mono ?_; rintro e w' ⟨rfl, rfl⟩) | (go_at_call 32; refine (isNaN_G a ha _).mono ?_; rintro e w' ⟨rfl, rfl⟩))
  go_ret
  exact ⟨rfl, rfl⟩

/-- (*Summary).setFloat. -/
theorem setFloat_G (a : Int) (ha : a.natAbs < 2 ^ 53) (b : Nat) (u v : Value) (w : World) (h2 : w.cell? ⟨b, 2, none⟩ = some u) (h3 : w.cell? ⟨b, 3, none⟩ = some v) (f2 : w.frozen? ⟨b, 2, none⟩ = false) (f3 : w.frozen? ⟨b, 3, none⟩ = false) :
    Calls Ybaf.prog 36 #[.pointer (some ⟨b, 0, none⟩), .float .f64 (G 0 a)] w fun e w' => e = .returned (.tuple #[]) ∧ w' = (w.setCell ⟨b, 2, none⟩ (.float .f64 (G 0 a))).setCell ⟨b, 3, none⟩ (.float .f64 (G (-64) a)) := by
  have hm : ∀ w, (binOp .mul 31 (.float .f64 (G 0 a)) (.float .f64 4318952042648305664)).run Ybaf.prog w = .ok (.float .f64 (G (-64) a)) w := fun w => run_float_arith w .mul 31 .f64 _ _ _ (mul_G a ha)
  go_enter Ybaf.func36, Ybaf.ntmps36
  go_wp2_with (simp only [hm])
  go_end0
  exact ⟨rfl, rfl⟩
end Go.Proofs.YbulkamduFmt
