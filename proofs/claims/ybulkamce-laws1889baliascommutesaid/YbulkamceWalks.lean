/-
  The walks over seat b1889a: (*element).add by one contract for whatever aliasing, then the two laws.
-/
import Derived.Test.YbulkamceRows
import Derived.WalkKit
import Derived.WalkSpells
import Derived.StillTactics
import Derived.Laws.Pointers
import Derived.RegionTactic
import Derived.RowKit3
import Derived.Deep.QuietTactic
import Derived.BigQuiet
import Derived.Lib.Builder
import Derived.ChangeKeysEq
namespace Go.Proofs.Ybulkamce
open Go.RowKit

/-- Only block b has been written: all else is as it was; no frozen mark has turned. -/
structure Only (b : Nat) (w w' : World) : Prop where
  os : w'.os = w.os
  output : w'.output = w.output
  size : w'.heap.size = w.heap.size
  block : ∀ k, k ≠ b → w'.heap[k]? = w.heap[k]?
  frozen : ∀ a, w'.frozen? a = w.frozen? a

theorem Only.refl (b : Nat) (w : World) : Only b w w := ⟨rfl, rfl, rfl, fun _ _ => rfl, fun _ => rfl⟩
theorem Only.drew {b : Nat} {w w' : World} (h : Only b w w') : Only b w w'.drew := ⟨h.os, h.output, h.size, h.block, h.frozen⟩
theorem Only.setCell {b : Nat} {w w' : World} (h : Only b w w') (o : Nat) (v : Value) : Only b w (w'.setCell ⟨b, o, none⟩ v) :=
  ⟨h.os, h.output, by simpa [World.setCell] using h.size, fun k hk => (Below.heap_setCell _ _ _ _ hk).trans (h.block k hk), fun a => by rw [World.frozen?_setCell]; exact h.frozen a⟩
theorem Only.cell {b : Nat} {w w' : World} (h : Only b w w') {p : Addr} (hp : p.block ≠ b) : w'.cell? p = w.cell? p := World.cell?_of_block (w := w) (h.block p.block hp)

set_option maxHeartbeats 400000 in
theorem add_any (bv ba bb : Nat) (A B V : Nat → Int) (w : World)
    (ha : ∀ j, j < 8 → w.cell? ⟨ba, j, none⟩ = some (.int .u64 (A j))) (hb : ∀ j, j < 8 → w.cell? ⟨bb, j, none⟩ = some (.int .u64 (B j)))
    (hv : ∀ j, j < 8 → w.cell? ⟨bv, j, none⟩ = some (.int .u64 (V j))) (hf : ∀ j, j < 8 → w.frozen? ⟨bv, j, none⟩ = false) :
    Calls Yba.prog 5 #[.pointer (some ⟨bv, 0, none⟩), .pointer (some ⟨ba, 0, none⟩), .pointer (some ⟨bb, 0, none⟩)] w fun e w' =>
      e = .returned (.pointer (some ⟨bv, 0, none⟩)) ∧ Only bv w w' ∧ ∀ j, j < 8 → w'.cell? ⟨bv, j, none⟩ = some (.int .u64 (IntKind.u64.wrap (A j + B j))) := by
  go_enter Yba.func5, Yba.ntmps5
  go_wp2
  go_loopw [8] (fun i wr => ∃ k : Nat, k ≤ 8 ∧ i = .int .i64 k ∧ Only bv w wr ∧ (∀ j, j < k → wr.cell? ⟨bv, j, none⟩ = some (.int .u64 (IntKind.u64.wrap (A j + B j)))) ∧ (∀ j, k ≤ j → wr.cell? ⟨bv, j, none⟩ = w.cell? ⟨bv, j, none⟩))
     (fun i _ => 8 - (intOf i).toNat)
  case atStart => exact ⟨0, Nat.zero_le _, rfl, Only.refl _ _, fun j hj => absurd hj (by omega), fun _ _ => rfl⟩
  case round =>
    obtain ⟨k, hk, rfl, ho, hlo, hhi⟩ := hrel
    by_cases hlt : k < 8
    · have ca : wr.cell? ⟨ba, k, none⟩ = some (.int .u64 (A k)) := by
        by_cases e : ba = bv
        · subst e; rw [hhi k (Nat.le_refl _)]; exact ha k hlt
        · rw [ho.cell e]; exact ha k hlt
      have cb : wr.cell? ⟨bb, k, none⟩ = some (.int .u64 (B k)) := by
        by_cases e : bb = bv
        · subst e; rw [hhi k (Nat.le_refl _)]; exact hb k hlt
        · rw [ho.cell e]; exact hb k hlt
      have cv : wr.cell? ⟨bv, k, none⟩ = some (.int .u64 (V k)) := by rw [hhi k (Nat.le_refl _)]; exact hv k hlt
      have cf : wr.frozen? ⟨bv, k, none⟩ = false := by rw [ho.frozen]; exact hf k hlt
      have hlt' : (k : Int) < 8 := by omega
      have H : Hid (Only bv w wr ∧ (∀ j, j < k → wr.cell? ⟨bv, j, none⟩ = some (.int .u64 (IntKind.u64.wrap (A j + B j)))) ∧ (∀ j, k ≤ j → wr.cell? ⟨bv, j, none⟩ = w.cell? ⟨bv, j, none⟩)) := ⟨ho, hlo, hhi⟩
      clear ho hlo hhi ha hb hv hf
      go_wp2
      go_region
      all_goals go_wp2
      all_goals
        obtain ⟨ho, hlo, hhi⟩ := H.out
        go_roundw
        case rel =>
          refine ⟨k + 1, by omega, by go_num, ho.drew.setCell _ _, fun j hj => ?_, fun j hj => ?_⟩
          · show (wr.setCell ⟨bv, k, none⟩ (Value.int IntKind.u64 (IntKind.u64.wrap (A k + B k)))).cell? ⟨bv, j, none⟩ = _
            by_cases e : j = k
            · subst e; exact World.cell?_setCell_same _ _ _ cv
            · rw [World.cell?_setCell_other _ _ _ _ (by simp only [ne_eq, Addr.mk.injEq]; omega)]; exact hlo j (by omega)
          · show (wr.setCell ⟨bv, k, none⟩ (Value.int IntKind.u64 (IntKind.u64.wrap (A k + B k)))).cell? ⟨bv, j, none⟩ = _
            rw [World.cell?_setCell_other _ _ _ _ (by simp only [ne_eq, Addr.mk.injEq]; omega)]; exact hhi j (by omega)
        case measure => simp [intOf]; omega
    · have hk8 : k = 8 := by omega
      subst hk8
      go_wp2
      go_ret
      exact ⟨rfl, ho, hlo⟩

theorem Grown.only {W w w' : World} (h : Grown W w) {b : Nat} (hb : W.heap.size ≤ b) (ho : Only b w w') : Grown W w' := by
  obtain ⟨⟨h1, h2, h3⟩, hf, hs⟩ := h
  refine ⟨⟨ho.os.trans h1, ho.output.trans h2, fun i hi => ?_⟩, fun a => (ho.frozen a).trans (hf a), by rw [ho.size]; exact hs⟩
  rw [ho.block i (by omega)]
  exact h3 i hi

/-- Eight numbers in a new block. -/
def eight (c0 c1 c2 c3 c4 c5 c6 c7 : Int) : Nat → Int := fun j => [c0, c1, c2, c3, c4, c5, c6, c7].getD j 0
theorem cells_eight (c0 c1 c2 c3 c4 c5 c6 c7 : Int) (j : Nat) (hj : j < 8) :
    (#[Value.int .u64 c0, .int .u64 c1, .int .u64 c2, .int .u64 c3, .int .u64 c4, .int .u64 c5, .int .u64 c6, .int .u64 c7] : Array Value)[j]? = some (.int .u64 (eight c0 c1 c2 c3 c4 c5 c6 c7 j)) := by
  have : j = 0 ∨ j = 1 ∨ j = 2 ∨ j = 3 ∨ j = 4 ∨ j = 5 ∨ j = 6 ∨ j = 7 := by omega
  rcases this with rfl | rfl | rfl | rfl | rfl | rfl | rfl | rfl <;> rfl

theorem Yba.info24 : ∃ j, Yba.prog.info? 24 = some j := by
  cases h : Yba.prog.info? 24 with
  | some j => exact ⟨j, rfl⟩
  | none => exact absurd (show (Yba.prog.info? 24).isSome = true by kernel_rfl) (by simp [h])
theorem Yba.info22 : ∃ j, Yba.prog.info? 22 = some j := by
  cases h : Yba.prog.info? 22 with
  | some j => exact ⟨j, rfl⟩
  | none => exact absurd (show (Yba.prog.info? 22).isSome = true by kernel_rfl) (by simp [h])
theorem Yba.cells22 : Yba.prog.cellsOf 22 = 1 := by kernel_rfl
/-- A pointer is itself. -/
theorem neq_ptr (a : Addr) (w : World) : (binOp .neq 25 (.pointer (some a)) (.pointer (some a))).run Yba.prog w = .ok (.bool false) w := by
  obtain ⟨j, hj⟩ := Yba.info24
  exact Lib.run_neq_ptr_same w a Yba.underlying25 hj
theorem equal_int (d : Nat) (x : Int) (w : World) : (Op.equalIn (d + 1) 22 (.int .u64 x) (.int .u64 x)).run Yba.prog w = .ok true w := by
  simp [Op.equalIn, run_underlying Yba.underlying22]
theorem equal_arr (c0 c1 c2 c3 c4 c5 c6 c7 : Int) (w : World) :
    (Op.equalIn 10000 24 (.agg #[.int .u64 c0, .int .u64 c1, .int .u64 c2, .int .u64 c3, .int .u64 c4, .int .u64 c5, .int .u64 c6, .int .u64 c7]) (.agg #[.int .u64 c0, .int .u64 c1, .int .u64 c2, .int .u64 c3, .int .u64 c4, .int .u64 c5, .int .u64 c6, .int .u64 c7])).run Yba.prog w = .ok true w := by
  obtain ⟨j, hj⟩ := Yba.info22
  have p0 : ∀ w, (part 22 #[.int .u64 c0, .int .u64 c1, .int .u64 c2, .int .u64 c3, .int .u64 c4, .int .u64 c5, .int .u64 c6, .int .u64 c7] 0).run Yba.prog w = .ok (.int .u64 c0) w := fun _ => by kernel_rfl
  have p1 : ∀ w, (part 22 #[.int .u64 c0, .int .u64 c1, .int .u64 c2, .int .u64 c3, .int .u64 c4, .int .u64 c5, .int .u64 c6, .int .u64 c7] 1).run Yba.prog w = .ok (.int .u64 c1) w := fun _ => by kernel_rfl
  have p2 : ∀ w, (part 22 #[.int .u64 c0, .int .u64 c1, .int .u64 c2, .int .u64 c3, .int .u64 c4, .int .u64 c5, .int .u64 c6, .int .u64 c7] 2).run Yba.prog w = .ok (.int .u64 c2) w := fun _ => by kernel_rfl
  have p3 : ∀ w, (part 22 #[.int .u64 c0, .int .u64 c1, .int .u64 c2, .int .u64 c3, .int .u64 c4, .int .u64 c5, .int .u64 c6, .int .u64 c7] 3).run Yba.prog w = .ok (.int .u64 c3) w := fun _ => by kernel_rfl
  have p4 : ∀ w, (part 22 #[.int .u64 c0, .int .u64 c1, .int .u64 c2, .int .u64 c3, .int .u64 c4, .int .u64 c5, .int .u64 c6, .int .u64 c7] 4).run Yba.prog w = .ok (.int .u64 c4) w := fun _ => by kernel_rfl
  have p5 : ∀ w, (part 22 #[.int .u64 c0, .int .u64 c1, .int .u64 c2, .int .u64 c3, .int .u64 c4, .int .u64 c5, .int .u64 c6, .int .u64 c7] 5).run Yba.prog w = .ok (.int .u64 c5) w := fun _ => by kernel_rfl
  have p6 : ∀ w, (part 22 #[.int .u64 c0, .int .u64 c1, .int .u64 c2, .int .u64 c3, .int .u64 c4, .int .u64 c5, .int .u64 c6, .int .u64 c7] 6).run Yba.prog w = .ok (.int .u64 c6) w := fun _ => by kernel_rfl
  have p7 : ∀ w, (part 22 #[.int .u64 c0, .int .u64 c1, .int .u64 c2, .int .u64 c3, .int .u64 c4, .int .u64 c5, .int .u64 c6, .int .u64 c7] 7).run Yba.prog w = .ok (.int .u64 c7) w := fun _ => by kernel_rfl
  rw [run_equalIn_array w 9999 _ _ Yba.underlying24 hj, Yba.cells22]
  simp [Op.eqItems, show List.range 8 = [0, 1, 2, 3, 4, 5, 6, 7] from rfl, p0, p1, p2, p3, p4, p5, p6, p7, equal_int 9998]
set_option maxHeartbeats 1000000 in
theorem law_limbs (a0 a1 a2 a3 a4 a5 a6 a7 b0 b1 b2 b3 b4 b5 b6 b7 : Int) (w : World) :
    Calls Yba.prog 3 #[.agg #[.int .u64 a0, .int .u64 a1, .int .u64 a2, .int .u64 a3, .int .u64 a4, .int .u64 a5, .int .u64 a6, .int .u64 a7], .agg #[.int .u64 b0, .int .u64 b1, .int .u64 b2, .int .u64 b3, .int .u64 b4, .int .u64 b5, .int .u64 b6, .int .u64 b7]] w
      fun e w' => e = .returned (.bool true) ∧ Grown w w' := by
  go_enter Yba.func3, Yba.ntmps3
  go_wp2_with (go_at_call 5; refine (add_any _ _ _ (eight a0 a1 a2 a3 a4 a5 a6 a7) (eight b0 b1 b2 b3 b4 b5 b6 b7) (eight 0 0 0 0 0 0 0 0) _ (fun j hj => ?_) (fun j hj => ?_) (fun j hj => ?_) (fun j hj => ?_)).mono ?_)
  · simp [go_sem, cells_eight _ _ _ _ _ _ _ _ j hj]
  · simp [go_sem, cells_eight _ _ _ _ _ _ _ _ j hj]
  · simp [go_sem, cells_eight _ _ _ _ _ _ _ _ j hj]
  · simp [go_sem]
  rintro e w' ⟨rfl, ho, hv⟩
  have h0 : ∀ j, j < 8 → w'.cell? ⟨w.heap.size, j, none⟩ = some (.int .u64 (eight a0 a1 a2 a3 a4 a5 a6 a7 j)) := fun j hj => by
    rw [ho.cell (by simp only [ne_eq]; omega)]; simp [go_sem, cells_eight _ _ _ _ _ _ _ _ j hj]
  have h1 : ∀ j, j < 8 → w'.cell? ⟨w.heap.size + 1, j, none⟩ = some (.int .u64 (eight b0 b1 b2 b3 b4 b5 b6 b7 j)) := fun j hj => by
    rw [ho.cell (by simp only [ne_eq]; omega)]; simp [go_sem, cells_eight _ _ _ _ _ _ _ _ j hj]
  have h2 : ∀ j, j < 8 → w'.cell? ⟨w.heap.size + 1 + 1, j, none⟩ = some (.int .u64 (eight a0 a1 a2 a3 a4 a5 a6 a7 j)) := fun j hj => by
    rw [ho.cell (by simp only [ne_eq]; omega)]; simp [go_sem, cells_eight _ _ _ _ _ _ _ _ j hj]
  have h3 : ∀ j, j < 8 → w'.cell? ⟨w.heap.size + 1 + 1 + 1, j, none⟩ = some (.int .u64 (eight b0 b1 b2 b3 b4 b5 b6 b7 j)) := fun j hj => by
    rw [ho.cell (by simp only [ne_eq]; omega)]; simp [go_sem, cells_eight _ _ _ _ _ _ _ _ j hj]
  have hg : Grown w w' := Grown.only (((((Grown.refl w).alloc _ _).alloc _ _).alloc _ _).alloc _ _ |>.alloc _ _) (by omega) ho
  clear ho
  generalize eight a0 a1 a2 a3 a4 a5 a6 a7 = A at *
  generalize eight b0 b1 b2 b3 b4 b5 b6 b7 = B at *
  go_wp2_with (simp only [neq_ptr])
  go_loopw [9] (fun i wr => ∃ k : Nat, k ≤ 8 ∧ i = .int .i64 k ∧ ∃ q, wr = w'.drewN q) (fun i _ => 8 - (intOf i).toNat)
  case atStart => exact ⟨0, Nat.zero_le _, rfl, 0, rfl⟩
  case round =>
    obtain ⟨k, hk, rfl, q, rfl⟩ := hrel
    by_cases hlt : k < 8
    · have hlt' : (k : Int) < 8 := by omega
      have g0 := h0 k hlt
      have g1 := h1 k hlt
      have g2 := h2 k hlt
      have g3 := h3 k hlt
      have g4 := hv k hlt
      clear h0 h1 h2 h3 hv
      go_wp2
      go_quiet (fail)
      go_wp2
      go_quiet (fail)
      go_wp2
      go_roundw
      case rel => exact ⟨k + 1, by omega, by go_num, _, rfl⟩
      case measure => simp [intOf]; omega
    · go_wp2
      go_ret
      exact ⟨rfl, hg⟩

set_option maxHeartbeats 1000000 in
theorem law_alias (a0 a1 a2 a3 a4 a5 a6 a7 b0 b1 b2 b3 b4 b5 b6 b7 : Int) (w : World) :
    Calls Yba.prog 4 #[.agg #[.int .u64 a0, .int .u64 a1, .int .u64 a2, .int .u64 a3, .int .u64 a4, .int .u64 a5, .int .u64 a6, .int .u64 a7], .agg #[.int .u64 b0, .int .u64 b1, .int .u64 b2, .int .u64 b3, .int .u64 b4, .int .u64 b5, .int .u64 b6, .int .u64 b7]] w
      fun e w' => e = .returned (.bool true) ∧ Grown w w' := by
  go_enter Yba.func4, Yba.ntmps4
  go_wp2_with (go_at_call 5; refine (add_any _ _ _ (eight a0 a1 a2 a3 a4 a5 a6 a7) (eight b0 b1 b2 b3 b4 b5 b6 b7) (eight 0 0 0 0 0 0 0 0) _ (fun j hj => ?_) (fun j hj => ?_) (fun j hj => ?_) (fun j hj => ?_)).mono ?_)
  · simp [go_sem, cells_eight _ _ _ _ _ _ _ _ j hj]
  · simp [go_sem, cells_eight _ _ _ _ _ _ _ _ j hj]
  · simp [go_sem, cells_eight _ _ _ _ _ _ _ _ j hj]
  · simp [go_sem]
  rintro e w1 ⟨rfl, ho, hp⟩
  have h0 : ∀ j, j < 8 → w1.cell? ⟨w.heap.size, j, none⟩ = some (.int .u64 (eight a0 a1 a2 a3 a4 a5 a6 a7 j)) := fun j hj => by
    rw [ho.cell (by simp only [ne_eq]; omega)]; simp [go_sem, cells_eight _ _ _ _ _ _ _ _ j hj]
  have h1 : ∀ j, j < 8 → w1.cell? ⟨w.heap.size + 1, j, none⟩ = some (.int .u64 (eight b0 b1 b2 b3 b4 b5 b6 b7 j)) := fun j hj => by
    rw [ho.cell (by simp only [ne_eq]; omega)]; simp [go_sem, cells_eight _ _ _ _ _ _ _ _ j hj]
  have h2 : ∀ j, j < 8 → w1.cell? ⟨w.heap.size + 1 + 1, j, none⟩ = some (.int .u64 (eight a0 a1 a2 a3 a4 a5 a6 a7 j)) := fun j hj => by
    rw [ho.cell (by simp only [ne_eq]; omega)]; simp [go_sem, cells_eight _ _ _ _ _ _ _ _ j hj]
  have h3 : ∀ j, j < 8 → w1.cell? ⟨w.heap.size + 1 + 1 + 1, j, none⟩ = some (.int .u64 (eight b0 b1 b2 b3 b4 b5 b6 b7 j)) := fun j hj => by
    rw [ho.cell (by simp only [ne_eq]; omega)]; simp [go_sem, cells_eight _ _ _ _ _ _ _ _ j hj]
  have h5 : ∀ j, j < 8 → w1.cell? ⟨w.heap.size + 1 + 1 + 1 + 1 + 1, j, none⟩ = some (.int .u64 (eight 0 0 0 0 0 0 0 0 j)) := fun j hj => by
    rw [ho.cell (by simp only [ne_eq]; omega)]; simp [go_sem, cells_eight _ _ _ _ _ _ _ _ j hj]
  have hs : w1.heap.size = w.heap.size + 6 := by rw [ho.size]; simp
  have f5 : ∀ j, w1.frozen? ⟨w.heap.size + 1 + 1 + 1 + 1 + 1, j, none⟩ = false := fun j => by rw [ho.frozen]; simp [go_sem]
  have hg : Grown w w1 := Grown.only (((((((Grown.refl w).alloc _ _).alloc _ _).alloc _ _).alloc _ _).alloc _ _).alloc _ _) (by omega) ho
  clear ho
  go_wp2_with (go_at_call 5; refine (add_any _ _ _ (eight b0 b1 b2 b3 b4 b5 b6 b7) (eight a0 a1 a2 a3 a4 a5 a6 a7) (eight 0 0 0 0 0 0 0 0) _ h3 h2 h5 (fun j _ => f5 j)).mono ?_)
  rintro e w2 ⟨rfl, ho2, hq⟩
  obtain ⟨P, hP⟩ : ∃ P : Nat → Int, ∀ j, IntKind.u64.wrap (eight a0 a1 a2 a3 a4 a5 a6 a7 j + eight b0 b1 b2 b3 b4 b5 b6 b7 j) = P j := ⟨_, fun _ => rfl⟩
  have hP' : ∀ j, IntKind.u64.wrap (eight b0 b1 b2 b3 b4 b5 b6 b7 j + eight a0 a1 a2 a3 a4 a5 a6 a7 j) = P j := fun j => by rw [Int.add_comm]; exact hP j
  simp only [hP] at hp
  simp only [hP'] at hq
  have HP : Hid (∀ j, IntKind.u64.wrap (eight a0 a1 a2 a3 a4 a5 a6 a7 j + eight b0 b1 b2 b3 b4 b5 b6 b7 j) = P j) := hP
  clear hP hP'
  have k0 : ∀ j, j < 8 → w2.cell? ⟨w.heap.size, j, none⟩ = some (.int .u64 (eight a0 a1 a2 a3 a4 a5 a6 a7 j)) := fun j hj => by
    rw [ho2.cell (by simp only [ne_eq]; omega)]; exact h0 j hj
  have k1 : ∀ j, j < 8 → w2.cell? ⟨w.heap.size + 1, j, none⟩ = some (.int .u64 (eight b0 b1 b2 b3 b4 b5 b6 b7 j)) := fun j hj => by
    rw [ho2.cell (by simp only [ne_eq]; omega)]; exact h1 j hj
  have k2 : ∀ j, j < 8 → w2.cell? ⟨w.heap.size + 1 + 1, j, none⟩ = some (.int .u64 (eight a0 a1 a2 a3 a4 a5 a6 a7 j)) := fun j hj => by
    rw [ho2.cell (by simp only [ne_eq]; omega)]; exact h2 j hj
  have k3 : ∀ j, j < 8 → w2.cell? ⟨w.heap.size + 1 + 1 + 1, j, none⟩ = some (.int .u64 (eight b0 b1 b2 b3 b4 b5 b6 b7 j)) := fun j hj => by
    rw [ho2.cell (by simp only [ne_eq]; omega)]; exact h3 j hj
  have k4 : ∀ j, j < 8 → w2.cell? ⟨w.heap.size + 1 + 1 + 1 + 1, j, none⟩ = some (.int .u64 (P j)) := fun j hj => by
    rw [ho2.cell (by simp only [ne_eq]; omega)]; exact hp j hj
  have hs2 : w2.heap.size = w.heap.size + 6 := by rw [ho2.size]; exact hs
  have hg2 : Grown w w2 := Grown.only hg (by omega) ho2
  clear ho2 hg hs h0 h1 h2 h3 h5 f5 hp
  have c0 := k4 0 (by decide); have c1 := k4 1 (by decide); have c2 := k4 2 (by decide); have c3 := k4 3 (by decide); have c4 := k4 4 (by decide); have c5 := k4 5 (by decide); have c6 := k4 6 (by decide); have c7 := k4 7 (by decide)
  have d0 := hq 0 (by decide); have d1 := hq 1 (by decide); have d2 := hq 2 (by decide); have d3 := hq 3 (by decide); have d4 := hq 4 (by decide); have d5 := hq 5 (by decide); have d6 := hq 6 (by decide); have d7 := hq 7 (by decide)
  have e0 := k0 0 (by decide); have e1 := k0 1 (by decide); have e2 := k0 2 (by decide); have e3 := k0 3 (by decide); have e4 := k0 4 (by decide); have e5 := k0 5 (by decide); have e6 := k0 6 (by decide); have e7 := k0 7 (by decide)
  have K : Hid ((∀ j, j < 8 → w2.cell? ⟨w.heap.size + 1, j, none⟩ = some (.int .u64 (eight b0 b1 b2 b3 b4 b5 b6 b7 j))) ∧ (∀ j, j < 8 → w2.cell? ⟨w.heap.size + 1 + 1, j, none⟩ = some (.int .u64 (eight a0 a1 a2 a3 a4 a5 a6 a7 j))) ∧ (∀ j, j < 8 → w2.cell? ⟨w.heap.size + 1 + 1 + 1, j, none⟩ = some (.int .u64 (eight b0 b1 b2 b3 b4 b5 b6 b7 j))) ∧ (∀ j, j < 8 → w2.cell? ⟨w.heap.size + 1 + 1 + 1 + 1, j, none⟩ = some (.int .u64 (P j)))) := ⟨k1, k2, k3, k4⟩
  clear k0 k1 k2 k3 k4 hq
  have HS : Hid (w2.heap.size = w.heap.size + 6) := hs2
  clear hs2
  go_wp2_with (simp only [equal_arr, Result.andThen_ok, Bool.not_true])
  have hs2 : w2.heap.size = w.heap.size + 6 := HS.out
  obtain ⟨k1, k2, k3, k4⟩ := K.out
  refine (add_any _ _ _ (eight a0 a1 a2 a3 a4 a5 a6 a7) (eight b0 b1 b2 b3 b4 b5 b6 b7) (eight a0 a1 a2 a3 a4 a5 a6 a7) _ (fun j hj => ?_) (fun j hj => ?_) (fun j hj => ?_) (fun j hj => ?_)).mono ?_
  · rw [World.cell?_alloc_at _ _ _ _ rfl]; exact cells_eight _ _ _ _ _ _ _ _ j hj
  · rw [World.cell?_alloc_past _ _ _ (by omega)]; exact k3 j hj
  · rw [World.cell?_alloc_at _ _ _ _ rfl]; exact cells_eight _ _ _ _ _ _ _ _ j hj
  · exact World.frozen?_alloc_at _ _ _ _ rfl
  rintro e w3 ⟨rfl, ho3, hw⟩
  simp only [HP.out] at hw
  have m1 : ∀ j, j < 8 → w3.cell? ⟨w.heap.size + 1, j, none⟩ = some (.int .u64 (eight b0 b1 b2 b3 b4 b5 b6 b7 j)) := fun j hj => by
    rw [ho3.cell (by simp only [ne_eq]; omega), World.cell?_alloc_past _ _ _ (by omega)]; exact k1 j hj
  have m2 : ∀ j, j < 8 → w3.cell? ⟨w.heap.size + 1 + 1, j, none⟩ = some (.int .u64 (eight a0 a1 a2 a3 a4 a5 a6 a7 j)) := fun j hj => by
    rw [ho3.cell (by simp only [ne_eq]; omega), World.cell?_alloc_past _ _ _ (by omega)]; exact k2 j hj
  have m4 : ∀ j, j < 8 → w3.cell? ⟨w.heap.size + 1 + 1 + 1 + 1, j, none⟩ = some (.int .u64 (P j)) := fun j hj => by
    rw [ho3.cell (by simp only [ne_eq]; omega), World.cell?_alloc_past _ _ _ (by omega)]; exact k4 j hj
  have hs3 : w3.heap.size = w.heap.size + 7 := by rw [ho3.size]; simp [hs2]
  have hg3 : Grown w w3 := Grown.only (hg2.alloc _ _) (by omega) ho3
  clear k1 k2 k3 k4 K ho3 hg2 c0 c1 c2 c3 c4 c5 c6 c7 d0 d1 d2 d3 d4 d5 d6 d7 e0 e1 e2 e3 e4 e5 e6 e7
  have c0 := m4 0 (by decide); have c1 := m4 1 (by decide); have c2 := m4 2 (by decide); have c3 := m4 3 (by decide); have c4 := m4 4 (by decide); have c5 := m4 5 (by decide); have c6 := m4 6 (by decide); have c7 := m4 7 (by decide)
  have d0 := hw 0 (by decide); have d1 := hw 1 (by decide); have d2 := hw 2 (by decide); have d3 := hw 3 (by decide); have d4 := hw 4 (by decide); have d5 := hw 5 (by decide); have d6 := hw 6 (by decide); have d7 := hw 7 (by decide)
  have e0 := m1 0 (by decide); have e1 := m1 1 (by decide); have e2 := m1 2 (by decide); have e3 := m1 3 (by decide); have e4 := m1 4 (by decide); have e5 := m1 5 (by decide); have e6 := m1 6 (by decide); have e7 := m1 7 (by decide)
  have K : Hid ((∀ j, j < 8 → w3.cell? ⟨w.heap.size + 1 + 1, j, none⟩ = some (.int .u64 (eight a0 a1 a2 a3 a4 a5 a6 a7 j))) ∧ (∀ j, j < 8 → w3.cell? ⟨w.heap.size + 1 + 1 + 1 + 1, j, none⟩ = some (.int .u64 (P j))) ∧ w3.heap.size = w.heap.size + 7) := ⟨m2, m4, hs3⟩
  clear m1 m2 m4 hw hs2 hs3 HS
  go_wp2_with (first | simp only [equal_arr, Result.andThen_ok, Bool.not_true] | simp only [neq_ptr, Result.andThen_ok])
  obtain ⟨m2, m4, hs3⟩ := K.out
  refine (add_any _ _ _ (eight a0 a1 a2 a3 a4 a5 a6 a7) (eight b0 b1 b2 b3 b4 b5 b6 b7) (eight b0 b1 b2 b3 b4 b5 b6 b7) _ (fun j hj => ?_) (fun j hj => ?_) (fun j hj => ?_) (fun j hj => ?_)).mono ?_
  · rw [World.cell?_alloc_past _ _ _ (by omega)]; exact m2 j hj
  · rw [World.cell?_alloc_at _ _ _ _ rfl]; exact cells_eight _ _ _ _ _ _ _ _ j hj
  · rw [World.cell?_alloc_at _ _ _ _ rfl]; exact cells_eight _ _ _ _ _ _ _ _ j hj
  · exact World.frozen?_alloc_at _ _ _ _ rfl
  rintro e w4 ⟨rfl, ho4, hz⟩
  simp only [HP.out] at hz
  have n4 : ∀ j, j < 8 → w4.cell? ⟨w.heap.size + 1 + 1 + 1 + 1, j, none⟩ = some (.int .u64 (P j)) := fun j hj => by
    rw [ho4.cell (by simp only [ne_eq]; omega), World.cell?_alloc_past _ _ _ (by omega)]; exact m4 j hj
  have hg4 : Grown w w4 := Grown.only (hg3.alloc _ _) (by omega) ho4
  clear m2 m4 hs3 K ho4 hg3 c0 c1 c2 c3 c4 c5 c6 c7 d0 d1 d2 d3 d4 d5 d6 d7 e0 e1 e2 e3 e4 e5 e6 e7
  have c0 := n4 0 (by decide); have c1 := n4 1 (by decide); have c2 := n4 2 (by decide); have c3 := n4 3 (by decide); have c4 := n4 4 (by decide); have c5 := n4 5 (by decide); have c6 := n4 6 (by decide); have c7 := n4 7 (by decide)
  have d0 := hz 0 (by decide); have d1 := hz 1 (by decide); have d2 := hz 2 (by decide); have d3 := hz 3 (by decide); have d4 := hz 4 (by decide); have d5 := hz 5 (by decide); have d6 := hz 6 (by decide); have d7 := hz 7 (by decide)
  clear n4 hz
  go_wp2_with (simp only [equal_arr, Result.andThen_ok])
  go_ret
  exact ⟨rfl, hg4⟩
end Go.Proofs.Ybulkamce
