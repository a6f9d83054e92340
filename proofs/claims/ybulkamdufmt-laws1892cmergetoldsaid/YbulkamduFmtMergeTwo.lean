/-
  (*Summary).Merge of two summaries of some values, cut where its statements meet. The floats are letters here: only what their sums are is asked.
-/
import Derived.Test.YbulkamduFmtMerge
import Derived.Deep.DeepCutAuto
namespace Go.Proofs.YbulkamduFmt
open Go.RowKit
attribute [local go_sem] run_store_float

/-- In the midst of Merge: the block b holds the counts and sums merged, the box (the other summary's) its least and greatest value. -/
structure Mid (b : Nat) (w : World) (n : Int) (f g mi ma mi' ma' : Nat) (wx : World) : Prop where
  but : But b w wx
  twelve : Twelve wx b #[.int .u64 n, .int .u8 1, .float .f64 f, .float .f64 g, .int .u64 0, .int .u64 0, .int .u8 1, .int .u64 mi, .string { data := #[] }, .int .u8 1, .int .u64 ma, .string { data := #[] }]
  size : w.heap.size < wx.heap.size
  frozen : ∀ j, wx.frozen? ⟨b, j, none⟩ = false
  o6 : wx.cell? ⟨w.heap.size, 6, none⟩ = some (.int .u8 1)
  o7 : wx.cell? ⟨w.heap.size, 7, none⟩ = some (.int .u64 mi')
  o8 : wx.cell? ⟨w.heap.size, 8, none⟩ = some (.string { data := #[] })
  o9 : wx.cell? ⟨w.heap.size, 9, none⟩ = some (.int .u8 1)
  o10 : wx.cell? ⟨w.heap.size, 10, none⟩ = some (.int .u64 ma')
  o11 : wx.cell? ⟨w.heap.size, 11, none⟩ = some (.string { data := #[] })

theorem But.drewN {b : Nat} {w w' : World} (h : But b w w') (n : Nat) : But b w (w'.drewN n) := ⟨h.os, h.tape, h.output, h.size, h.block, h.frozen⟩

theorem cases12 {j : Nat} (hj : j < 12) : j = 0 ∨ j = 1 ∨ j = 2 ∨ j = 3 ∨ j = 4 ∨ j = 5 ∨ j = 6 ∨ j = 7 ∨ j = 8 ∨ j = 9 ∨ j = 10 ∨ j = 11 := by omega

theorem mid_start {b : Nat} {w : World} {n N n' : Int} {f g f' g' F K mi ma mi' ma' nq : Nat} (hb : b < w.heap.size) (hc : Twelve w b #[.int .u64 n, .int .u8 1, .float .f64 f, .float .f64 g, .int .u64 0, .int .u64 0, .int .u8 1, .int .u64 mi, .string { data := #[] }, .int .u8 1, .int .u64 ma, .string { data := #[] }]) (hf : ∀ j, w.frozen? ⟨b, j, none⟩ = false) :
    Mid b w N F K mi ma mi' ma' (((((w.setCell ⟨b, 0, none⟩ (.int .u64 N)).setCell ⟨b, 2, none⟩ (.float .f64 F)).setCell ⟨b, 3, none⟩ (.float .f64 K)).alloc (.cells #[.int .u64 n', .int .u8 1, .float .f64 f', .float .f64 g', .int .u64 0, .int .u64 0, .int .u8 1, .int .u64 mi', .string { data := #[] }, .int .u8 1, .int .u64 ma', .string { data := #[] }] 33)).drew.drew.drew.drewN nq) := by
  have c0 : w.cell? ⟨b, 0, none⟩ = some (.int .u64 n) := hc 0 (by decide)
  have c1 : w.cell? ⟨b, 1, none⟩ = some (.int .u8 1) := hc 1 (by decide)
  have c2 : w.cell? ⟨b, 2, none⟩ = some (.float .f64 f) := hc 2 (by decide)
  have c3 : w.cell? ⟨b, 3, none⟩ = some (.float .f64 g) := hc 3 (by decide)
  have c4 : w.cell? ⟨b, 4, none⟩ = some (.int .u64 0) := hc 4 (by decide)
  have c5 : w.cell? ⟨b, 5, none⟩ = some (.int .u64 0) := hc 5 (by decide)
  have c6 : w.cell? ⟨b, 6, none⟩ = some (.int .u8 1) := hc 6 (by decide)
  have c7 : w.cell? ⟨b, 7, none⟩ = some (.int .u64 mi) := hc 7 (by decide)
  have c8 : w.cell? ⟨b, 8, none⟩ = some (.string { data := #[] }) := hc 8 (by decide)
  have c9 : w.cell? ⟨b, 9, none⟩ = some (.int .u8 1) := hc 9 (by decide)
  have c10 : w.cell? ⟨b, 10, none⟩ = some (.int .u64 ma) := hc 10 (by decide)
  have c11 : w.cell? ⟨b, 11, none⟩ = some (.string { data := #[] }) := hc 11 (by decide)
  have B : But b w (((((w.setCell ⟨b, 0, none⟩ (.int .u64 N)).setCell ⟨b, 2, none⟩ (.float .f64 F)).setCell ⟨b, 3, none⟩ (.float .f64 K)).alloc (.cells #[.int .u64 n', .int .u8 1, .float .f64 f', .float .f64 g', .int .u64 0, .int .u64 0, .int .u8 1, .int .u64 mi', .string { data := #[] }, .int .u8 1, .int .u64 ma', .string { data := #[] }] 33)).drew.drew.drew.drewN nq) :=
    (((((((But.refl b w).setCell _ _).setCell _ _).setCell _ _).alloc hb _).drew).drew).drew.drewN nq
  have hb1 : b < w.heap.size + 1 := by omega
  refine ⟨B, ?_, by simp, fun j => (B.frozen j).trans (hf j), ?_, ?_, ?_, ?_, ?_, ?_⟩
  · intro j hj
    rcases cases12 hj with rfl | rfl | rfl | rfl | rfl | rfl | rfl | rfl | rfl | rfl | rfl | rfl <;> simp [go_sem, *]
  all_goals simp [go_sem]

/-- New blocks, draws. -/
theorem Mid.alloc {b : Nat} {w : World} {n : Int} {f g mi ma mi' ma' : Nat} {wx : World} (h : Mid b w n f g mi ma mi' ma' wx) (hb : b < w.heap.size) (o : Obj) : Mid b w n f g mi ma mi' ma' (wx.alloc o) := by
  have hs := h.size
  have k : ∀ j, (wx.alloc o).cell? ⟨b, j, none⟩ = wx.cell? ⟨b, j, none⟩ := fun j => World.cell?_alloc_past _ _ _ (by omega)
  have l : ∀ j, (wx.alloc o).cell? ⟨w.heap.size, j, none⟩ = wx.cell? ⟨w.heap.size, j, none⟩ := fun j => World.cell?_alloc_past _ _ _ hs
  exact ⟨h.but.alloc hb o, fun j hj => (k j).trans (h.twelve j hj), by simp; omega, fun j => (World.frozen?_alloc_past _ _ _ (by omega)).trans (h.frozen j), (l 6).trans h.o6, (l 7).trans h.o7, (l 8).trans h.o8, (l 9).trans h.o9, (l 10).trans h.o10, (l 11).trans h.o11⟩
theorem Mid.drew {b : Nat} {w : World} {n : Int} {f g mi ma mi' ma' : Nat} {wx : World} (h : Mid b w n f g mi ma mi' ma' wx) : Mid b w n f g mi ma mi' ma' wx.drew :=
  ⟨h.but.drew, h.twelve, h.size, h.frozen, h.o6, h.o7, h.o8, h.o9, h.o10, h.o11⟩
theorem Mid.setMin {b : Nat} {w : World} {n : Int} {f g mi ma mi' ma' : Nat} {wx : World} (h : Mid b w n f g mi ma mi' ma' wx) (hb : b < w.heap.size) : Mid b w n f g mi' ma mi' ma' (((wx.setCell ⟨b, 6, none⟩ (.int .u8 1)).setCell ⟨b, 7, none⟩ (.int .u64 mi')).setCell ⟨b, 8, none⟩ (.string { data := #[] })) := by
  have c0 : wx.cell? ⟨b, 0, none⟩ = some (.int .u64 n) := h.twelve 0 (by decide)
  have c1 : wx.cell? ⟨b, 1, none⟩ = some (.int .u8 1) := h.twelve 1 (by decide)
  have c2 : wx.cell? ⟨b, 2, none⟩ = some (.float .f64 f) := h.twelve 2 (by decide)
  have c3 : wx.cell? ⟨b, 3, none⟩ = some (.float .f64 g) := h.twelve 3 (by decide)
  have c4 : wx.cell? ⟨b, 4, none⟩ = some (.int .u64 0) := h.twelve 4 (by decide)
  have c5 : wx.cell? ⟨b, 5, none⟩ = some (.int .u64 0) := h.twelve 5 (by decide)
  have c6 : wx.cell? ⟨b, 6, none⟩ = some (.int .u8 1) := h.twelve 6 (by decide)
  have c7 : wx.cell? ⟨b, 7, none⟩ = some (.int .u64 mi) := h.twelve 7 (by decide)
  have c8 : wx.cell? ⟨b, 8, none⟩ = some (.string { data := #[] }) := h.twelve 8 (by decide)
  have c9 : wx.cell? ⟨b, 9, none⟩ = some (.int .u8 1) := h.twelve 9 (by decide)
  have c10 : wx.cell? ⟨b, 10, none⟩ = some (.int .u64 ma) := h.twelve 10 (by decide)
  have c11 : wx.cell? ⟨b, 11, none⟩ = some (.string { data := #[] }) := h.twelve 11 (by decide)
  have hne : b ≠ w.heap.size := by omega
  have hne' : w.heap.size ≠ b := by omega
  have B : But b w (((wx.setCell ⟨b, 6, none⟩ (.int .u8 1)).setCell ⟨b, 7, none⟩ (.int .u64 mi')).setCell ⟨b, 8, none⟩ (.string { data := #[] })) := ((h.but.setCell _ _).setCell _ _).setCell _ _
  refine ⟨B, ?_, by have := h.size; simpa [World.setCell] using this, fun j => by rw [B.frozen, ← h.but.frozen]; exact h.frozen j, ?_, ?_, ?_, ?_, ?_, ?_⟩
  · intro j hj
    rcases cases12 hj with rfl | rfl | rfl | rfl | rfl | rfl | rfl | rfl | rfl | rfl | rfl | rfl <;> simp [go_sem, *]
  · simpa [go_sem, hne, hne'] using h.o6
  · simpa [go_sem, hne, hne'] using h.o7
  · simpa [go_sem, hne, hne'] using h.o8
  · simpa [go_sem, hne, hne'] using h.o9
  · simpa [go_sem, hne, hne'] using h.o10
  · simpa [go_sem, hne, hne'] using h.o11
theorem Mid.setMax {b : Nat} {w : World} {n : Int} {f g mi ma mi' ma' : Nat} {wx : World} (h : Mid b w n f g mi ma mi' ma' wx) : Twelve (((wx.setCell ⟨b, 9, none⟩ (.int .u8 1)).setCell ⟨b, 10, none⟩ (.int .u64 ma')).setCell ⟨b, 11, none⟩ (.string { data := #[] })) b #[.int .u64 n, .int .u8 1, .float .f64 f, .float .f64 g, .int .u64 0, .int .u64 0, .int .u8 1, .int .u64 mi, .string { data := #[] }, .int .u8 1, .int .u64 ma', .string { data := #[] }] := by
  have c0 : wx.cell? ⟨b, 0, none⟩ = some (.int .u64 n) := h.twelve 0 (by decide)
  have c1 : wx.cell? ⟨b, 1, none⟩ = some (.int .u8 1) := h.twelve 1 (by decide)
  have c2 : wx.cell? ⟨b, 2, none⟩ = some (.float .f64 f) := h.twelve 2 (by decide)
  have c3 : wx.cell? ⟨b, 3, none⟩ = some (.float .f64 g) := h.twelve 3 (by decide)
  have c4 : wx.cell? ⟨b, 4, none⟩ = some (.int .u64 0) := h.twelve 4 (by decide)
  have c5 : wx.cell? ⟨b, 5, none⟩ = some (.int .u64 0) := h.twelve 5 (by decide)
  have c6 : wx.cell? ⟨b, 6, none⟩ = some (.int .u8 1) := h.twelve 6 (by decide)
  have c7 : wx.cell? ⟨b, 7, none⟩ = some (.int .u64 mi) := h.twelve 7 (by decide)
  have c8 : wx.cell? ⟨b, 8, none⟩ = some (.string { data := #[] }) := h.twelve 8 (by decide)
  have c9 : wx.cell? ⟨b, 9, none⟩ = some (.int .u8 1) := h.twelve 9 (by decide)
  have c10 : wx.cell? ⟨b, 10, none⟩ = some (.int .u64 ma) := h.twelve 10 (by decide)
  have c11 : wx.cell? ⟨b, 11, none⟩ = some (.string { data := #[] }) := h.twelve 11 (by decide)
  intro j hj
  rcases cases12 hj with rfl | rfl | rfl | rfl | rfl | rfl | rfl | rfl | rfl | rfl | rfl | rfl <;> simp [go_sem, *]

set_option maxRecDepth 100000 in
set_option maxHeartbeats 4000000 in
/-- Merge of two summaries of some values. -/
theorem merge_two (b : Nat) (n n' : Int) (f g f' g' F K mi ma mi' ma' : Nat) (hn : (n == 0) = false) (hn' : (n' == 0) = false) (hw : IntKind.u64.wrap (n + n') = n + n') (hF : floatBits .add .f64 f f' = some F) (hK : floatBits .add .f64 g g' = some K)
    (w : World) (hb : b < w.heap.size) (hc : Twelve w b #[.int .u64 n, .int .u8 1, .float .f64 f, .float .f64 g, .int .u64 0, .int .u64 0, .int .u8 1, .int .u64 mi, .string { data := #[] }, .int .u8 1, .int .u64 ma, .string { data := #[] }]) (hf : ∀ j, w.frozen? ⟨b, j, none⟩ = false) :
    Calls Ybaf.prog 8 #[.pointer (some ⟨b, 0, none⟩), .agg #[.int .u64 n', .int .u8 1, .float .f64 f', .float .f64 g', .int .u64 0, .int .u64 0, .int .u8 1, .int .u64 mi', .string { data := #[] }, .int .u8 1, .int .u64 ma', .string { data := #[] }]] w fun e w' => e = .returned (.tuple #[]) ∧ But b w w' ∧ ∃ mi'' ma'' : Nat, Twelve w' b #[.int .u64 (n + n'), .int .u8 1, .float .f64 F, .float .f64 K, .int .u64 0, .int .u64 0, .int .u8 1, .int .u64 mi'', .string { data := #[] }, .int .u8 1, .int .u64 ma'', .string { data := #[] }] := by
  have a0 : ∀ w, (binOp .add 31 (.float .f64 f) (.float .f64 f')).run Ybaf.prog w = .ok (.float .f64 F) w := fun w => run_float_arith w .add 31 .f64 _ _ _ hF
  have a1 : ∀ w, (binOp .add 31 (.float .f64 g) (.float .f64 g')).run Ybaf.prog w = .ok (.float .f64 K) w := fun w => run_float_arith w .add 31 .f64 _ _ _ hK
  have c0 : w.cell? ⟨b, 0, none⟩ = some (.int .u64 n) := hc 0 (by decide)
  have c1 : w.cell? ⟨b, 1, none⟩ = some (.int .u8 1) := hc 1 (by decide)
  have c2 : w.cell? ⟨b, 2, none⟩ = some (.float .f64 f) := hc 2 (by decide)
  have c3 : w.cell? ⟨b, 3, none⟩ = some (.float .f64 g) := hc 3 (by decide)
  have c4 : w.cell? ⟨b, 4, none⟩ = some (.int .u64 0) := hc 4 (by decide)
  have c5 : w.cell? ⟨b, 5, none⟩ = some (.int .u64 0) := hc 5 (by decide)
  have c6 : w.cell? ⟨b, 6, none⟩ = some (.int .u8 1) := hc 6 (by decide)
  have c7 : w.cell? ⟨b, 7, none⟩ = some (.int .u64 mi) := hc 7 (by decide)
  have c8 : w.cell? ⟨b, 8, none⟩ = some (.string { data := #[] }) := hc 8 (by decide)
  have c9 : w.cell? ⟨b, 9, none⟩ = some (.int .u8 1) := hc 9 (by decide)
  have c10 : w.cell? ⟨b, 10, none⟩ = some (.int .u64 ma) := hc 10 (by decide)
  have c11 : w.cell? ⟨b, 11, none⟩ = some (.string { data := #[] }) := hc 11 (by decide)
  have f0 := hf 0
  have f1 := hf 1
  have f2 := hf 2
  have f3 := hf 3
  have f4 := hf 4
  have f5 := hf 5
  have f6 := hf 6
  have f7 := hf 7
  have f8 := hf 8
  have f9 := hf 9
  have f10 := hf 10
  have f11 := hf 11
  have HF : Hid (∀ j, w.frozen? ⟨b, j, none⟩ = false) := hf
  have HC : Hid (Twelve w b #[.int .u64 n, .int .u8 1, .float .f64 f, .float .f64 g, .int .u64 0, .int .u64 0, .int .u8 1, .int .u64 mi, .string { data := #[] }, .int .u8 1, .int .u64 ma, .string { data := #[] }]) := hc
  clear hc hf hF hK
  have hne : b ≠ w.heap.size := by omega
  go_enter Ybaf.func8, Ybaf.ntmps8
  go_wp2
  go_region
  go_wp2
  go_region
  go_wp2
  go_region
  go_wp2_with (go_at_call 10; refine (isNumber1 _).mono ?_; rintro e w' ⟨rfl, rfl⟩)
  go_cut [66] (fun s wx => s = .bool false ∧ wx.cell? ⟨b, 1, none⟩ = some (.int .u8 1) ∧ Hid (Mid b w (n + n') F K mi ma mi' ma' wx))
  case first =>
    go_quiet (fail)
    go_wp2
    go_meet
    case rel =>
      refine ⟨rfl, ?_, mid_start hb HC.out HF.out⟩
      simp [go_sem, *]
  case rest =>
    obtain ⟨rfl, k1, HM⟩ := hcut
    clear c0 f0 c1 f1 c2 f2 c3 f3 c4 f4 c5 f5 c6 f6 c7 f7 c8 f8 c9 f9 c10 f10 c11 f11 HF HC a0 a1 hw hn hn'
    have b6 : wc.cell? ⟨b, 6, none⟩ = some (.int .u8 1) := HM.out.twelve 6 (by decide)
    have b7 : wc.cell? ⟨b, 7, none⟩ = some (.int .u64 mi) := HM.out.twelve 7 (by decide)
    have b8 : wc.cell? ⟨b, 8, none⟩ = some (.string { data := #[] }) := HM.out.twelve 8 (by decide)
    have o6 := HM.out.o6; have o7 := HM.out.o7; have o8 := HM.out.o8
    have hbc : b < wc.heap.size := by have := HM.out.size; omega
    have hwc : w.heap.size < wc.heap.size := HM.out.size
    have hbc1 : b < wc.heap.size + 1 := by omega
    have hbc2 : b < wc.heap.size + 1 + 1 := by omega
    have hbc3 : b < wc.heap.size + 1 + 1 + 1 := by omega
    have hbc4 : b < wc.heap.size + 1 + 1 + 1 + 1 := by omega
    have hbc5 : b < wc.heap.size + 1 + 1 + 1 + 1 + 1 := by omega
    have hbc6 : b < wc.heap.size + 1 + 1 + 1 + 1 + 1 + 1 := by omega
    have hwc1 : w.heap.size < wc.heap.size + 1 := by omega
    have hwc2 : w.heap.size < wc.heap.size + 1 + 1 := by omega
    have hwc3 : w.heap.size < wc.heap.size + 1 + 1 + 1 := by omega
    have hwc4 : w.heap.size < wc.heap.size + 1 + 1 + 1 + 1 := by omega
    have hwc5 : w.heap.size < wc.heap.size + 1 + 1 + 1 + 1 + 1 := by omega
    have hwc6 : w.heap.size < wc.heap.size + 1 + 1 + 1 + 1 + 1 + 1 := by omega
    go_wp2
    go_cut [5, 6] (fun s s' wx => ∃ c : Int, s = .int .i64 c ∧ Hid (Mid b w (n + n') F K mi ma mi' ma' wx))
    case first =>
      go_region_held3 (fun w' => w'.cell? ⟨b, 6, none⟩ = some (.int .u8 1) ∧ w'.cell? ⟨b, 7, none⟩ = some (.int .u64 mi) ∧ w'.cell? ⟨b, 8, none⟩ = some (.string { data := #[] }) ∧ w'.cell? ⟨w.heap.size, 6, none⟩ = some (.int .u8 1) ∧ w'.cell? ⟨w.heap.size, 7, none⟩ = some (.int .u64 mi') ∧ w'.cell? ⟨w.heap.size, 8, none⟩ = some (.string { data := #[] })) (simp [go_sem, World.cell?_alloc_past, *])
        (first | (go_at_call 16; refine (compareF _ _ _).mono ?_; rintro e w' ⟨c, e1, e2, e3, e4, e5, e6, rfl, rfl⟩))
      go_wp2
      go_meet
      case rel => exact ⟨c, rfl, ((((((((HM.out.alloc hb _).alloc hb _).alloc hb _).alloc hb _).alloc hb _).alloc hb _).drew).drew)⟩
    case rest =>
      clear HM b6 b7 b8 o6 o7 o8 hbc hwc hbc1 hbc2 hbc3 hbc4 hbc5 hbc6 hwc1 hwc2 hwc3 hwc4 hwc5 hwc6 k1
      obtain ⟨c, rfl, HM⟩ := hcut
      go_upto_if 121 with fail
      go_cut [] (fun wx => ∃ mi'' : Nat, Hid (Mid b w (n + n') F K mi'' ma mi' ma' wx))
      case first =>
        have b6 : wc.cell? ⟨b, 6, none⟩ = some (.int .u8 1) := HM.out.twelve 6 (by decide)
        have b7 : wc.cell? ⟨b, 7, none⟩ = some (.int .u64 mi) := HM.out.twelve 7 (by decide)
        have b8 : wc.cell? ⟨b, 8, none⟩ = some (.string { data := #[] }) := HM.out.twelve 8 (by decide)
        have f6 := HM.out.frozen 6; have f7 := HM.out.frozen 7; have f8 := HM.out.frozen 8
        have o6 := HM.out.o6; have o7 := HM.out.o7; have o8 := HM.out.o8
        by_cases hlt : c < 0
        · go_wp2
          go_meet
          case rel => exact ⟨mi', HM.out.setMin hb⟩
        · go_wp2
          go_meet
          case rel => exact ⟨mi, HM⟩
      case rest =>
        clear HM
        obtain ⟨m2, HM⟩ := hcut
        have b9 : wc.cell? ⟨b, 9, none⟩ = some (.int .u8 1) := HM.out.twelve 9 (by decide)
        have b10 : wc.cell? ⟨b, 10, none⟩ = some (.int .u64 ma) := HM.out.twelve 10 (by decide)
        have b11 : wc.cell? ⟨b, 11, none⟩ = some (.string { data := #[] }) := HM.out.twelve 11 (by decide)
        have o9 := HM.out.o9; have o10 := HM.out.o10; have o11 := HM.out.o11
        have hbd : b < wc.heap.size := by have := HM.out.size; omega
        have hwd : w.heap.size < wc.heap.size := HM.out.size
        have hbd1 : b < wc.heap.size + 1 := by omega
        have hbd2 : b < wc.heap.size + 1 + 1 := by omega
        have hbd3 : b < wc.heap.size + 1 + 1 + 1 := by omega
        have hbd4 : b < wc.heap.size + 1 + 1 + 1 + 1 := by omega
        have hbd5 : b < wc.heap.size + 1 + 1 + 1 + 1 + 1 := by omega
        have hbd6 : b < wc.heap.size + 1 + 1 + 1 + 1 + 1 + 1 := by omega
        have hwd1 : w.heap.size < wc.heap.size + 1 := by omega
        have hwd2 : w.heap.size < wc.heap.size + 1 + 1 := by omega
        have hwd3 : w.heap.size < wc.heap.size + 1 + 1 + 1 := by omega
        have hwd4 : w.heap.size < wc.heap.size + 1 + 1 + 1 + 1 := by omega
        have hwd5 : w.heap.size < wc.heap.size + 1 + 1 + 1 + 1 + 1 := by omega
        have hwd6 : w.heap.size < wc.heap.size + 1 + 1 + 1 + 1 + 1 + 1 := by omega
        go_wp2
        go_cut [7, 8] (fun s s' wx => ∃ c : Int, s = .int .i64 c ∧ Hid (Mid b w (n + n') F K m2 ma mi' ma' wx))
        case first =>
          go_region_held3 (fun w' => w'.cell? ⟨b, 9, none⟩ = some (.int .u8 1) ∧ w'.cell? ⟨b, 10, none⟩ = some (.int .u64 ma) ∧ w'.cell? ⟨b, 11, none⟩ = some (.string { data := #[] }) ∧ w'.cell? ⟨w.heap.size, 9, none⟩ = some (.int .u8 1) ∧ w'.cell? ⟨w.heap.size, 10, none⟩ = some (.int .u64 ma') ∧ w'.cell? ⟨w.heap.size, 11, none⟩ = some (.string { data := #[] })) (simp [go_sem, World.cell?_alloc_past, *])
            (first | (go_at_call 16; refine (compareF _ _ _).mono ?_; rintro e w' ⟨c, e1, e2, e3, e4, e5, e6, rfl, rfl⟩))
          go_wp2
          go_meet
          case rel => exact ⟨c, rfl, ((((((((HM.out.alloc hb _).alloc hb _).alloc hb _).alloc hb _).alloc hb _).alloc hb _).drew).drew)⟩
        case rest =>
          clear HM b9 b10 b11 o9 o10 o11 hbd hwd hbd1 hbd2 hbd3 hbd4 hbd5 hbd6 hwd1 hwd2 hwd3 hwd4 hwd5 hwd6
          obtain ⟨c2, rfl, HM⟩ := hcut
          have b9 : wc.cell? ⟨b, 9, none⟩ = some (.int .u8 1) := HM.out.twelve 9 (by decide)
          have b10 : wc.cell? ⟨b, 10, none⟩ = some (.int .u64 ma) := HM.out.twelve 10 (by decide)
          have b11 : wc.cell? ⟨b, 11, none⟩ = some (.string { data := #[] }) := HM.out.twelve 11 (by decide)
          have f9 := HM.out.frozen 9; have f10 := HM.out.frozen 10; have f11 := HM.out.frozen 11
          have o9 := HM.out.o9; have o10 := HM.out.o10; have o11 := HM.out.o11
          by_cases hlt : 0 < c2
          · go_wp2
            go_end0
            exact ⟨rfl, ((HM.out.but.setCell _ _).setCell _ _).setCell _ _, m2, ma', HM.out.setMax⟩
          · go_wp2
            go_end0
            exact ⟨rfl, HM.out.but, m2, ma, HM.out.twelve⟩
end Go.Proofs.YbulkamduFmt
