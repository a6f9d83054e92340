/-
  The walks over seat b1890a: pointsOf, the model zzs1890bmodel, the two laws.
-/
import Derived.Test.YbulkamcsRows
import Derived.WalkKit
import Derived.RowKit3
import Derived.Deep.QuietTactic
import Derived.BigQuiet
namespace Go.Proofs.Ybulkamcs
open Go.RowKit

theorem eql11 (w : World) : (binOp .eql 22 (.float .f64 4607182418800017408) (.float .f64 4607182418800017408)).run Yba.prog w = .ok (.bool true) w := by kernel_rfl
theorem eql55 (w : World) : (binOp .eql 22 (.float .f64 4617315517961601024) (.float .f64 4617315517961601024)).run Yba.prog w = .ok (.bool true) w := by kernel_rfl
theorem lss15 (w : World) : (binOp .lss 22 (.float .f64 4607182418800017408) (.float .f64 4617315517961601024)).run Yba.prog w = .ok (.bool true) w := by kernel_rfl

theorem points_get (w : World) : Calls Yba.prog 5 #[.string { data := #[71, 69, 84] }] w fun e w' => e = .returned (.float .f64 4607182418800017408) ∧ w' = w := by
  go_enter Yba.func5, Yba.ntmps5
  go_wp2
  go_ret
  exact ⟨rfl, rfl⟩

theorem points_other (s : ByteArray) (h : (s.toList == [71, 69, 84]) = false) (w : World) : Calls Yba.prog 5 #[.string s] w fun e w' => e = .returned (.float .f64 4617315517961601024) ∧ w' = w := by
  go_enter Yba.func5, Yba.ntmps5
  go_wp2
  go_ret
  exact ⟨rfl, rfl⟩

theorem toList_ne {s : ByteArray} (h : s ≠ { data := #[71, 69, 84] }) : (s.toList == [71, 69, 84]) = false := by
  simp only [beq_eq_false_iff_ne, ne_eq]
  intro e
  apply h
  rw [ByteArray.toList_eq] at e
  obtain ⟨⟨l⟩⟩ := s
  simp at e
  subst e
  rfl

theorem known (a0 : Int) (h0 : 0 ≤ a0) (h1 : a0 ≤ 255) (w : World) :
    Calls Yba.prog 4 #[.int .u8 a0] w fun e w' => e = .returned (.bool true) ∧ Grown w w' := by
  have hr : a0 % 6 = 0 ∨ a0 % 6 = 1 ∨ a0 % 6 = 2 ∨ a0 % 6 = 3 ∨ a0 % 6 = 4 ∨ a0 % 6 = 5 := by omega
  rcases hr with hr | hr | hr | hr | hr | hr
  · go_enter Yba.func4, Yba.ntmps4
    go_wp2_with (first | simp only [eql11] | simp only [lss15] | (go_at_call 5; refine (points_get _).mono ?_; rintro e w' ⟨rfl, rfl⟩) | (go_at_call 5; refine (points_other _ (toList_ne (by decide)) _).mono ?_; rintro e w' ⟨rfl, rfl⟩))
    go_ret
    exact ⟨rfl, by repeat (first | exact Grown.refl _ | apply Grown.drew | apply Grown.alloc)⟩
  all_goals
    go_enter Yba.func4, Yba.ntmps4
    go_wp2_with (first | simp only [eql55] | (go_at_call 5; refine (points_other _ (toList_ne (by decide)) _).mono ?_; rintro e w' ⟨rfl, rfl⟩))
    go_ret
    exact ⟨rfl, by repeat (first | exact Grown.refl _ | apply Grown.drew | apply Grown.alloc)⟩

theorem model_get (w : World) : Calls Yba.prog 6 #[.string { data := #[71, 69, 84] }] w fun e w' => e = .returned (.float .f64 4607182418800017408) ∧ w' = w := by
  go_enter Yba.func6, Yba.ntmps6
  go_wp2
  go_ret
  exact ⟨rfl, rfl⟩

theorem model_other_size (s : ByteArray) (h : s.size ≠ 3) (w : World) : Calls Yba.prog 6 #[.string s] w fun e w' => e = .returned (.float .f64 4617315517961601024) ∧ w' = w := by
  have h' : (((s.size : Nat) : Int) == 3) = false := by simp; omega
  go_enter Yba.func6, Yba.ntmps6
  go_wp2
  go_ret
  exact ⟨rfl, rfl⟩

theorem model_other_three (b0 b1 b2 : UInt8) (h : ¬ (b0 = 71 ∧ b1 = 69 ∧ b2 = 84)) (w : World) : Calls Yba.prog 6 #[.string { data := #[b0, b1, b2] }] w fun e w' => e = .returned (.float .f64 4617315517961601024) ∧ w' = w := by
  have i0 : ({ data := #[b0, b1, b2] } : ByteArray)[0]'(show 0 < 3 by decide) = b0 := rfl
  have i1 : ({ data := #[b0, b1, b2] } : ByteArray)[1]'(show 1 < 3 by decide) = b1 := rfl
  have i2 : ({ data := #[b0, b1, b2] } : ByteArray)[2]'(show 2 < 3 by decide) = b2 := rfl
  by_cases g0 : b0 = 71
  · by_cases g1 : b1 = 69
    · have g2 : ((b2.toNat : Int) == 84) = false := by
        have : ¬ b2 = 84 := fun e => h ⟨g0, g1, e⟩
        simp only [beq_eq_false_iff_ne, ne_eq]
        intro e
        exact this (UInt8.toNat_inj.1 (by simpa using (by omega : b2.toNat = 84)))
      subst g0; subst g1
      go_enter Yba.func6, Yba.ntmps6
      go_wp2
      go_ret
      exact ⟨rfl, rfl⟩
    · have g1' : ((b1.toNat : Int) == 69) = false := by
        simp only [beq_eq_false_iff_ne, ne_eq]
        intro e
        exact g1 (UInt8.toNat_inj.1 (by simpa using (by omega : b1.toNat = 69)))
      subst g0
      go_enter Yba.func6, Yba.ntmps6
      go_wp2
      go_ret
      exact ⟨rfl, rfl⟩
  · have g0' : ((b0.toNat : Int) == 71) = false := by
      simp only [beq_eq_false_iff_ne, ne_eq]
      intro e
      exact g0 (UInt8.toNat_inj.1 (by simpa using (by omega : b0.toNat = 71)))
    go_enter Yba.func6, Yba.ntmps6
    go_wp2
    go_ret
    exact ⟨rfl, rfl⟩

theorem table_get (w : World) : Calls Yba.prog 3 #[.string { data := #[71, 69, 84] }] w fun e w' => e = .returned (.bool true) ∧ w' = w := by
  go_enter Yba.func3, Yba.ntmps3
  go_wp2_with (first | simp only [eql11] | (go_at_call 5; refine (points_get _).mono ?_; rintro e w' ⟨rfl, rfl⟩) | (go_at_call 6; refine (model_get _).mono ?_; rintro e w' ⟨rfl, rfl⟩))
  go_ret
  exact ⟨rfl, rfl⟩

theorem table_other (s : ByteArray) (hp : ∀ w, Calls Yba.prog 5 #[.string s] w fun e w' => e = .returned (.float .f64 4617315517961601024) ∧ w' = w)
    (hm : ∀ w, Calls Yba.prog 6 #[.string s] w fun e w' => e = .returned (.float .f64 4617315517961601024) ∧ w' = w) (w : World) :
    Calls Yba.prog 3 #[.string s] w fun e w' => e = .returned (.bool true) ∧ w' = w := by
  go_enter Yba.func3, Yba.ntmps3
  go_wp2_with (first | simp only [eql55] | (go_at_call 5; refine (hp _).mono ?_; rintro e w' ⟨rfl, rfl⟩) | (go_at_call 6; refine (hm _).mono ?_; rintro e w' ⟨rfl, rfl⟩))
  go_ret
  exact ⟨rfl, rfl⟩

theorem table (s : ByteArray) (w : World) : Calls Yba.prog 3 #[.string s] w fun e w' => e = .returned (.bool true) ∧ w' = w := by
  by_cases hg : s = { data := #[71, 69, 84] }
  · subst hg
    exact table_get w
  · refine table_other s (fun w => points_other s (toList_ne hg) w) (fun w => ?_) w
    by_cases h3 : s.size = 3
    · obtain ⟨⟨l⟩⟩ := s
      match l, h3 with
      | [b0, b1, b2], _ => exact model_other_three b0 b1 b2 (fun ⟨e0, e1, e2⟩ => hg (by subst e0; subst e1; subst e2; rfl)) w
    · exact model_other_size s h3 w
end Go.Proofs.Ybulkamcs
