/-
  (Value).Compare at two floats, storage.summaryOf of a float, (*Summary).Merge, (*Summary).Add.
-/
import Derived.Test.YbulkamduFmtSmall
import Derived.Deep.RegionHeld3
import Derived.Deep.RegionWith
namespace Go.Proofs.YbulkamduFmt
open Go.RowKit
attribute [local go_sem] run_store_float

theorem compareF (x y : Nat) (w : World) : Calls Ybaf.prog 16 #[.agg #[.int .u8 1, .int .u64 x, .string { data := #[] }], .agg #[.int .u8 1, .int .u64 y, .string { data := #[] }]] w fun e w' =>
    ∃ (c : Int) (c1 c2 c3 c4 c5 c6 : Array Value), e = .returned (.tuple #[.int .i64 c, .bool true]) ∧ w' = ((((((w.alloc (.cells c1 26)).alloc (.cells c2 26)).alloc (.cells c3 26)).alloc (.cells c4 26)).alloc (.cells c5 26)).alloc (.cells c6 26)).drew := by
  go_enter Ybaf.func16, Ybaf.ntmps16
  go_wp2
  go_region_held3 (fun w' => w'.cell? ⟨w.heap.size, 0, none⟩ = some (.int .u8 1) ∧ w'.cell? ⟨w.heap.size, 1, none⟩ = some (.int .u64 x) ∧ w'.cell? ⟨w.heap.size, 2, none⟩ = some (.string { data := #[] }) ∧ w'.cell? ⟨w.heap.size + 1, 0, none⟩ = some (.int .u8 1) ∧ w'.cell? ⟨w.heap.size + 1, 1, none⟩ = some (.int .u64 y) ∧ w'.cell? ⟨w.heap.size + 1, 2, none⟩ = some (.string { data := #[] })) (simp [go_sem, World.cell?_alloc_past])
    (first
      | (go_at_call 23; refine (valueFloat _ _ _).mono ?_; rintro e w' ⟨rfl, rfl⟩)
      | (go_at_call 21; refine (compare_any _ _ _).mono ?_; rintro e w' ⟨c, rfl, rfl⟩))
  go_wp2
  go_ret2
  exact ⟨c, _, _, _, _, _, _, rfl, rfl⟩

/-- storage.summaryOf of a float value that is a whole number. -/
theorem summaryOf (a : Int) (ha : a.natAbs < 2 ^ 53) (w : World) : Calls Ybaf.prog 20 #[.agg #[.int .u8 1, .int .u64 (G 0 a), .string { data := #[] }]] w fun e w' =>
    e = .returned (.agg #[.int .u64 1, .int .u8 1, .float .f64 (G 0 a), .float .f64 (G (-64) a), .int .u64 0, .int .u64 0, .int .u8 1, .int .u64 (G 0 a), .string { data := #[] }, .int .u8 1, .int .u64 (G 0 a), .string { data := #[] }]) ∧ Below w.heap.size w w' := by
  go_enter Ybaf.func20, Ybaf.ntmps20
  go_wp2
  go_region_held3 (fun w' => w'.cell? ⟨w.heap.size, 0, none⟩ = some (.int .u8 1) ∧ w'.cell? ⟨w.heap.size, 1, none⟩ = some (.int .u64 (G 0 a)) ∧ w'.cell? ⟨w.heap.size, 2, none⟩ = some (.string { data := #[] })) (simp [go_sem, World.cell?_alloc_past])
    (first | (go_at_call 35; refine (valueType _ _ _ _).mono ?_; rintro e w' ⟨rfl, rfl⟩))
  all_goals
    go_wp2_with (first | (go_at_call 35; refine (valueType _ _ _ _).mono ?_; rintro e w' ⟨rfl, rfl⟩) | (go_at_call 23; refine (valueFloat _ _ _).mono ?_; rintro e w' ⟨rfl, rfl⟩) | (go_at_call 36; refine (setFloat_G a ha _ (.float .f64 0) (.float .f64 0) _ (by simp [go_sem]) (by simp [go_sem]) (by simp [go_sem]) (by simp [go_sem])).mono ?_; rintro e w' ⟨rfl, rfl⟩))
  all_goals
    refine bodyPost_ret (v := .agg #[.int .u64 1, .int .u8 1, .float .f64 (G 0 a), .float .f64 (G (-64) a), .int .u64 0, .int .u64 0, .int .u8 1, .int .u64 (G 0 a), .string { data := #[] }, .int .u8 1, .int .u64 (G 0 a), .string { data := #[] }]) (by simp [results, Ybaf.results20, go_sem]) rfl ⟨rfl, ?_⟩
    repeat (first | exact Below.refl _ _ | apply Below.drew | refine Below.alloc ?_ (by simp <;> omega) _)

/-- Block b may have been written; all else that was there is as it was. -/
structure But (b : Nat) (w w' : World) : Prop where
  os : w'.os = w.os
  tape : w'.tape = w.tape
  output : w'.output = w.output
  size : w.heap.size ≤ w'.heap.size
  block : ∀ k, k < w.heap.size → k ≠ b → w'.heap[k]? = w.heap[k]?
  frozen : ∀ j, w'.frozen? ⟨b, j, none⟩ = w.frozen? ⟨b, j, none⟩

theorem But.refl (b : Nat) (w : World) : But b w w := ⟨rfl, rfl, rfl, Nat.le_refl _, fun _ _ _ => rfl, fun _ => rfl⟩
theorem But.drew {b : Nat} {w w' : World} (h : But b w w') : But b w w'.drew := ⟨h.os, h.tape, h.output, h.size, h.block, h.frozen⟩
theorem But.alloc {b : Nat} {w w' : World} (h : But b w w') (hb : b < w.heap.size) (o : Obj) : But b w (w'.alloc o) :=
  ⟨h.os, h.tape, h.output, by have := h.size; simp; omega, fun k hk hn => (Below.heap_alloc _ _ _ (by have := h.size; omega)).trans (h.block k hk hn), fun j => (World.frozen?_alloc_past _ _ _ (by have := h.size; omega)).trans (h.frozen j)⟩
theorem But.setCell {b : Nat} {w w' : World} (h : But b w w') (o : Nat) (v : Value) : But b w (w'.setCell ⟨b, o, none⟩ v) :=
  ⟨h.os, h.tape, h.output, by simpa [World.setCell] using h.size, fun k hk hn => (Below.heap_setCell _ _ _ _ hn).trans (h.block k hk hn), fun j => by rw [World.frozen?_setCell]; exact h.frozen j⟩

/-- The block b holds these twelve cells. -/
def Twelve (w : World) (b : Nat) (c : Array Value) : Prop := ∀ j, j < 12 → w.cell? ⟨b, j, none⟩ = c[j]?

set_option maxHeartbeats 1000000 in
/-- Merge of no value: nothing turns. -/
theorem merge_none (b : Nat) (w : World) : Calls Ybaf.prog 8 #[.pointer (some ⟨b, 0, none⟩), .agg #[.int .u64 0, .int .u8 0, .float .f64 0, .float .f64 0, .int .u64 0, .int .u64 0, .int .u8 0, .int .u64 0, .string { data := #[] }, .int .u8 0, .int .u64 0, .string { data := #[] }]] w fun e w' => e = .returned (.tuple #[]) ∧ w' = w.alloc (.cells #[.int .u64 0, .int .u8 0, .float .f64 0, .float .f64 0, .int .u64 0, .int .u64 0, .int .u8 0, .int .u64 0, .string { data := #[] }, .int .u8 0, .int .u64 0, .string { data := #[] }] 33) := by
  go_enter Ybaf.func8, Ybaf.ntmps8
  go_wp2
  exact bodyPost_ret (v := .tuple #[]) (by simp [results, Ybaf.results8]) rfl ⟨rfl, rfl⟩

set_option maxHeartbeats 1000000 in
/-- Merge into a summary of no value: it becomes the other one. -/
theorem merge_first (b : Nat) (n : Int) (f g : Nat) (mi ma : Int) (hn : (n == 0) = false) (w : World) (hb : b < w.heap.size) (hc : Twelve w b #[.int .u64 0, .int .u8 0, .float .f64 0, .float .f64 0, .int .u64 0, .int .u64 0, .int .u8 0, .int .u64 0, .string { data := #[] }, .int .u8 0, .int .u64 0, .string { data := #[] }]) (hf : ∀ j, w.frozen? ⟨b, j, none⟩ = false) :
    Calls Ybaf.prog 8 #[.pointer (some ⟨b, 0, none⟩), .agg #[.int .u64 n, .int .u8 1, .float .f64 f, .float .f64 g, .int .u64 0, .int .u64 0, .int .u8 1, .int .u64 mi, .string { data := #[] }, .int .u8 1, .int .u64 ma, .string { data := #[] }]] w fun e w' => e = .returned (.tuple #[]) ∧ But b w w' ∧ Twelve w' b #[.int .u64 n, .int .u8 1, .float .f64 f, .float .f64 g, .int .u64 0, .int .u64 0, .int .u8 1, .int .u64 mi, .string { data := #[] }, .int .u8 1, .int .u64 ma, .string { data := #[] }] := by
  have c0 : w.cell? ⟨b, 0, none⟩ = some (.int .u64 0) := hc 0 (by decide)
  have f0 := hf 0
  have c1 : w.cell? ⟨b, 1, none⟩ = some (.int .u8 0) := hc 1 (by decide)
  have f1 := hf 1
  have c2 : w.cell? ⟨b, 2, none⟩ = some (.float .f64 0) := hc 2 (by decide)
  have f2 := hf 2
  have c3 : w.cell? ⟨b, 3, none⟩ = some (.float .f64 0) := hc 3 (by decide)
  have f3 := hf 3
  have c4 : w.cell? ⟨b, 4, none⟩ = some (.int .u64 0) := hc 4 (by decide)
  have f4 := hf 4
  have c5 : w.cell? ⟨b, 5, none⟩ = some (.int .u64 0) := hc 5 (by decide)
  have f5 := hf 5
  have c6 : w.cell? ⟨b, 6, none⟩ = some (.int .u8 0) := hc 6 (by decide)
  have f6 := hf 6
  have c7 : w.cell? ⟨b, 7, none⟩ = some (.int .u64 0) := hc 7 (by decide)
  have f7 := hf 7
  have c8 : w.cell? ⟨b, 8, none⟩ = some (.string { data := #[] }) := hc 8 (by decide)
  have f8 := hf 8
  have c9 : w.cell? ⟨b, 9, none⟩ = some (.int .u8 0) := hc 9 (by decide)
  have f9 := hf 9
  have c10 : w.cell? ⟨b, 10, none⟩ = some (.int .u64 0) := hc 10 (by decide)
  have f10 := hf 10
  have c11 : w.cell? ⟨b, 11, none⟩ = some (.string { data := #[] }) := hc 11 (by decide)
  have f11 := hf 11
  clear hc hf
  go_enter Ybaf.func8, Ybaf.ntmps8
  go_wp2
  refine bodyPost_ret (v := .tuple #[]) (by simp [results, Ybaf.results8]) rfl ⟨rfl, ?_, ?_⟩
  · exact ((((((((((((But.refl b w).setCell _ _).setCell _ _).setCell _ _).setCell _ _).setCell _ _).setCell _ _).setCell _ _).setCell _ _).setCell _ _).setCell _ _).setCell _ _).setCell _ _ |>.alloc hb _
  · intro j hj
    have hj' : j = 0 ∨ j = 1 ∨ j = 2 ∨ j = 3 ∨ j = 4 ∨ j = 5 ∨ j = 6 ∨ j = 7 ∨ j = 8 ∨ j = 9 ∨ j = 10 ∨ j = 11 := by omega
    rcases hj' with rfl | rfl | rfl | rfl | rfl | rfl | rfl | rfl | rfl | rfl | rfl | rfl <;> simp [go_sem, *]

end Go.Proofs.YbulkamduFmt
