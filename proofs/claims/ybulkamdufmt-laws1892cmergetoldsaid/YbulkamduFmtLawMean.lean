/-
  The walk of LawS1892CMean.
-/
import Derived.Test.YbulkamduFmtBuild
import Derived.Test.YbulkamduFmtMean
namespace Go.Proofs.YbulkamduFmt
open Go.RowKit Go.Extern.Stop Go.Stop Go.Extern

/-- More than 4096 elements. -/
theorem mean_long (a : Option Addr) (n c : Nat) (h : 4096 < n) (w : World) : Calls Ybaf.prog 3 #[.slice a n c] w fun e w' => e = .returned (.bool true) ∧ Below w.heap.size w w' := by
  have h' : (4096 : Int) < (n : Int) := by omega
  go_enter Ybaf.func3, Ybaf.ntmps3
  go_wp2
  go_ret
  exact ⟨rfl, Below.refl _ _⟩

/-- No element. -/
theorem mean_empty (F : Interp) (a : Option Addr) (c : Nat) (w : World) (hF : F.answers w.tape) : Calls Ybaf.prog 3 #[.slice a 0 c] w fun e w' => e = .returned (.bool true) ∧ Below w.heap.size w w' := by
  go_enter Ybaf.func3, Ybaf.ntmps3
  go_wp2_with (first | (go_at_call 6; refine (build_empty a c _).mono ?_; rintro e w1 ⟨rfl, hb1⟩) | (go_at_call 5; refine (mean0 F _ (by rw [hb1.tape]; exact hF)).mono ?_; rintro e w2 ⟨p, rfl, hb2⟩))
  go_ret
  have hB : Below w.heap.size w w2 := hb1.trans (hb2.mono hb1.size)
  exact ⟨rfl, hB.alloc hB.size _⟩

/-- zzs1892cbuild of some elements, as mean wants it. -/
theorem build_some (bx off n c : Nat) (zs : List Int) (w : World) (h0 : n ≠ 0) (hn : n ≤ 4096) (hz : n ≤ zs.length) (hbx : bx < w.heap.size) (hcell : ∀ j, j < n → w.cell? ⟨bx, off + j, none⟩ = some (.int .i8 (zs.getD j 0))) (hr : ∀ j, -128 ≤ zs.getD j 0 ∧ zs.getD j 0 ≤ 127) :
    Calls Ybaf.prog 6 #[.slice (some ⟨bx, off, none⟩) n c] w fun e w' => ∃ mi ma : Nat, e = .returned (.agg #[.int .u64 (n : Int), .int .u8 1, .float .f64 (G 0 (isum (zs.take n))), .float .f64 (G (-64) (isum (zs.take n))), .int .u64 0, .int .u64 0, .int .u8 1, .int .u64 mi, .string { data := #[] }, .int .u8 1, .int .u64 ma, .string { data := #[] }]) ∧ Below w.heap.size w w' := by
  refine (build_any bx off n c zs w hn hz hbx hcell hr).mono ?_
  rintro e w' ⟨cs, rfl, hS, hB⟩
  rcases hS with ⟨rfl, _⟩ | ⟨_, mi, ma, rfl⟩
  · exact absurd rfl h0
  · exact ⟨mi, ma, rfl, hB⟩

set_option maxHeartbeats 2000000 in
/-- Some elements. -/
theorem mean_some (bx off n c : Nat) (zs : List Int) (w : World) (h0 : n ≠ 0) (hn : n ≤ 4096) (hz : n ≤ zs.length) (hbx : bx < w.heap.size) (hcell : ∀ j, j < n → w.cell? ⟨bx, off + j, none⟩ = some (.int .i8 (zs.getD j 0))) (hr : ∀ j, -128 ≤ zs.getD j 0 ∧ zs.getD j 0 ≤ 127) :
    Calls Ybaf.prog 3 #[.slice (some ⟨bx, off, none⟩) n c] w fun e w' => e = .returned (.bool true) ∧ Below w.heap.size w w' := by
  have hb := isum_bound zs hr n hz
  obtain ⟨r, hr'⟩ := div_G (isum (zs.take n)) (n : Int) (by omega) (by omega) (by omega)
  have hq : ∀ w, (binOp .quo 31 (.float .f64 (floatOfInt .f64 (isum (zs.take n)))) (.float .f64 (floatOfInt .f64 (n : Int)))).run Ybaf.prog w = .ok (.float .f64 r) w := fun w => run_float_arith w .quo 31 .f64 _ _ _ hr'
  have B := build_some bx off n c zs w h0 hn hz hbx hcell hr
  have M := fun (mi ma : Nat) (w : World) => mean1 (n : Int) (isum (zs.take n)) mi ma (by omega) r hr' w
  have HC : Hid (∀ j, j < n → w.cell? ⟨bx, off + j, none⟩ = some (.int .i8 (zs.getD j 0))) := hcell
  have HR : Hid (∀ j, -128 ≤ zs.getD j 0 ∧ zs.getD j 0 ≤ 127) := hr
  have n0 : ((n : Int) == 0) = false := by simp only [beq_eq_false_iff_ne, ne_eq]; omega
  clear hcell hr hr' hb
  go_enter Ybaf.func3, Ybaf.ntmps3
  go_wp2_with (first | (go_at_call 6; refine B.mono ?_; rintro e w1 ⟨mi, ma, rfl, hb1⟩) | (go_at_call 5; refine (M _ _ _).mono ?_; rintro e w2 ⟨rfl, hb2⟩))
  have hB : Below w.heap.size w (w2.alloc (.cells #[.int .u8 1, .int .u64 r, .string { data := #[] }] 26)) := ((hb1.trans (hb2.mono hb1.size)).alloc (Nat.le_trans hb1.size hb2.size) _)
  have HB : Hid (Below w.heap.size w (w2.alloc (.cells #[.int .u8 1, .int .u64 r, .string { data := #[] }] 26))) := hB
  clear B M hb1 hb2 hB
  go_loop [5, 31] (fun t i => ∃ k : Nat, k ≤ n ∧ i = .int .i64 k ∧ t = .int .i64 (isum (zs.take k))) (fun _ i => n - (intOf i).toNat)
  case atStart => exact ⟨0, Nat.zero_le _, rfl, rfl⟩
  case round =>
    obtain ⟨k, hk, rfl, rfl⟩ := hrel
    by_cases hlt : k < n
    · have hx := HR.out k
      have hst := isum_step zs k (by omega)
      have hbd := isum_bound zs HR.out k (by omega)
      have cx : (w2.alloc (.cells #[.int .u8 1, .int .u64 r, .string { data := #[] }] 26)).cell? ⟨bx, off + k, none⟩ = some (.int .i8 (zs.getD k 0)) := (HB.out.cell (p := ⟨bx, off + k, none⟩) hbx).trans (HC.out k hlt)
      generalize zs.getD k 0 = x at cx hst hx
      obtain ⟨x0, x1⟩ := hx
      have HST : Hid (isum (zs.take (k + 1)) = isum (zs.take k) + x) := hst
      have t0 : -524288 ≤ isum (zs.take k) := by omega
      have t1 : isum (zs.take k) ≤ 524288 := by omega
      clear hst hbd hq
      generalize isum (zs.take k) = t at HST t0 t1
      go_wp2
      go_round
      case rel => exact ⟨k + 1, by omega, by go_num, by rw [HST.out]⟩
      case measure => simp [intOf]; omega
    · have hkn : k = n := by omega
      subst hkn
      go_wp2
      go_region_held3 (fun w' => w'.cell? ⟨w2.heap.size, 0, none⟩ = some (.int .u8 1) ∧ w'.cell? ⟨w2.heap.size, 1, none⟩ = some (.int .u64 r) ∧ w'.cell? ⟨w2.heap.size, 2, none⟩ = some (.string { data := #[] })) (simp [go_sem, World.cell?_alloc_past])
        (first | (go_at_call 7; refine (floatValue _ _).mono ?_; rintro e w' ⟨rfl, c', rfl⟩))
      go_wp2
      go_ret
      exact ⟨rfl, (HB.out.alloc HB.out.size _).drew⟩

end Go.Proofs.YbulkamduFmt
