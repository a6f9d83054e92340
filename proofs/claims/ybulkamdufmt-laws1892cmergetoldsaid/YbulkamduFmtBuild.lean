/-
  (*Summary).Add of a whole number; query.zzs1892cbuild: the summary of a slice of int8.
-/
import Derived.Test.YbulkamduFmtMergeTwo
namespace Go.Proofs.YbulkamduFmt
open Go.RowKit
attribute [local go_sem] run_store_float

/-- The cells of a summary of k values whose sum is t. -/
def SumCells (k : Nat) (t : Int) (c : Array Value) : Prop := (k = 0 ∧ t = 0 ∧ c = #[.int .u64 0, .int .u8 0, .float .f64 0, .float .f64 0, .int .u64 0, .int .u64 0, .int .u8 0, .int .u64 0, .string { data := #[] }, .int .u8 0, .int .u64 0, .string { data := #[] }]) ∨ (k ≠ 0 ∧ ∃ mi ma : Nat, c = #[.int .u64 (k : Int), .int .u8 1, .float .f64 (G 0 t), .float .f64 (G (-64) t), .int .u64 0, .int .u64 0, .int .u8 1, .int .u64 mi, .string { data := #[] }, .int .u8 1, .int .u64 ma, .string { data := #[] }])

theorem But.of_below {b : Nat} {w w' : World} (h : Below w.heap.size w w') (hb : b < w.heap.size) : But b w w' :=
  ⟨h.os, h.tape, h.output, h.size, fun k hk _ => h.block k hk, fun _ => h.frozen hb⟩
theorem But.trans {b : Nat} {w w1 w2 : World} (h : But b w w1) (k : But b w1 w2) : But b w w2 :=
  ⟨k.os.trans h.os, k.tape.trans h.tape, k.output.trans h.output, Nat.le_trans h.size k.size, fun i hi hn => (k.block i (Nat.lt_of_lt_of_le hi h.size) hn).trans (h.block i hi hn), fun j => (k.frozen j).trans (h.frozen j)⟩
theorem Twelve.of_below {b B : Nat} {w w' : World} {c : Array Value} (h : Below B w w') (hb : b < B) (hc : Twelve w b c) : Twelve w' b c :=
  fun j hj => (h.cell (p := ⟨b, j, none⟩) hb).trans (hc j hj)

theorem wrap_small (n : Int) (h0 : 0 ≤ n) (h1 : n < 1000000) : IntKind.u64.wrap n = n := by
  simp [IntKind.wrap, IntKind.signed, IntKind.bits]; omega

/-- (*Summary).Merge of some values, into whatever summary. -/
theorem merge_some (b : Nat) (k k' : Nat) (t t' : Int) (mi' ma' : Nat) (c : Array Value) (hk : k < 10000) (hk' : k' < 10000) (h0 : k' ≠ 0) (ht : t.natAbs < 2 ^ 53) (ht' : t'.natAbs < 2 ^ 53) (hs : (t + t').natAbs < 2 ^ 53) (hS : SumCells k t c) (w : World) (hb : b < w.heap.size) (hc : Twelve w b c) (hf : ∀ j, w.frozen? ⟨b, j, none⟩ = false) :
    Calls Ybaf.prog 8 #[.pointer (some ⟨b, 0, none⟩), .agg #[.int .u64 (k' : Int), .int .u8 1, .float .f64 (G 0 t'), .float .f64 (G (-64) t'), .int .u64 0, .int .u64 0, .int .u8 1, .int .u64 mi', .string { data := #[] }, .int .u8 1, .int .u64 ma', .string { data := #[] }]] w fun e w' => e = .returned (.tuple #[]) ∧ But b w w' ∧ ∃ c', SumCells (k + k') (t + t') c' ∧ Twelve w' b c' := by
  have hn' : (((k' : Nat) : Int) == 0) = false := by simp only [beq_eq_false_iff_ne, ne_eq]; omega
  rcases hS with ⟨rfl, rfl, rfl⟩ | ⟨hk0, mi, ma, rfl⟩
  · refine (merge_first b k' (G 0 t') (G (-64) t') mi' ma' hn' w hb hc hf).mono ?_
    rintro e w' ⟨he, hB, hT⟩
    refine ⟨he, hB, _, Or.inr ⟨by omega, mi', ma', ?_⟩, hT⟩
    simp only [Nat.zero_add, Int.zero_add]
  · have hn : (((k : Nat) : Int) == 0) = false := by simp only [beq_eq_false_iff_ne, ne_eq]; omega
    refine (merge_two b k k' (G 0 t) (G (-64) t) (G 0 t') (G (-64) t') (G 0 (t + t')) (G (-64) (t + t')) mi ma mi' ma' hn hn' (wrap_small _ (by omega) (by omega)) (add_G 0 t t' ht ht' hs (by decide) (by decide)) (add_G (-64) t t' ht ht' hs (by decide) (by decide)) w hb hc hf).mono ?_
    rintro e w' ⟨he, hB, m1, m2, hT⟩
    refine ⟨he, hB, _, Or.inr ⟨by omega, m1, m2, ?_⟩, hT⟩
    rw [Int.natCast_add]

/-- (*Summary).Add. -/
theorem add_any (b : Nat) (k : Nat) (t a : Int) (c : Array Value) (hk : k < 10000) (ht : t.natAbs < 2 ^ 53) (ha : a.natAbs < 2 ^ 53) (hs : (t + a).natAbs < 2 ^ 53) (hS : SumCells k t c) (w : World) (hb : b < w.heap.size) (hc : Twelve w b c) (hf : ∀ j, w.frozen? ⟨b, j, none⟩ = false) :
    Calls Ybaf.prog 13 #[.pointer (some ⟨b, 0, none⟩), .agg #[.int .u8 1, .int .u64 (G 0 a), .string { data := #[] }]] w fun e w' => e = .returned (.tuple #[]) ∧ But b w w' ∧ ∃ c', SumCells (k + 1) (t + a) c' ∧ Twelve w' b c' := by
  have HC : Hid (Twelve w b c) := hc
  have HF : Hid (∀ j, w.frozen? ⟨b, j, none⟩ = false) := hf
  have HS : Hid (SumCells k t c) := hS
  clear hc hf hS
  go_enter Ybaf.func13, Ybaf.ntmps13
  go_wp2_with (go_at_call 20; refine (summaryOf a ha _).mono ?_; rintro e w1 ⟨rfl, hw1⟩)
  have hB : Below w.heap.size w w1 := ((Below.refl _ _).alloc (Nat.le_refl _) _).trans (hw1.mono (by simp))
  refine (merge_some b k 1 t a (G 0 a) (G 0 a) c hk (by decide) (by decide) ht ha hs HS.out w1 (by have := hB.size; omega) (Twelve.of_below hB hb HC.out) (fun j => (hB.frozen (p := ⟨b, j, none⟩) hb).trans (HF.out j))).mono ?_
  rintro e w2 ⟨rfl, hB2, c', hS', hT'⟩
  have R : Hid (But b w w2 ∧ ∃ c', SumCells (k + 1) (t + a) c' ∧ Twelve w2 b c') := ⟨(But.of_below hB hb).trans hB2, c', hS', hT'⟩
  clear hB hw1 hB2 hS' hT'
  go_wp2
  go_end0
  exact ⟨rfl, R.out⟩

/-! ### The sum of the first numbers -/
def isum : List Int → Int
  | [] => 0
  | x :: l => x + isum l
theorem isum_append (l m : List Int) : isum (l ++ m) = isum l + isum m := by
  induction l with
  | nil => simp [isum]
  | cons x l ih => simp only [List.cons_append, isum, ih]; omega
theorem isum_step (zs : List Int) (k : Nat) (hk : k < zs.length) : isum (zs.take (k + 1)) = isum (zs.take k) + zs.getD k 0 := by
  rw [List.take_succ_eq_append_getElem hk, isum_append]
  simp [isum, List.getD, hk]
theorem isum_bound (zs : List Int) (h : ∀ j, -128 ≤ zs.getD j 0 ∧ zs.getD j 0 ≤ 127) (k : Nat) (hk : k ≤ zs.length) : (isum (zs.take k)).natAbs ≤ 128 * k := by
  induction k with
  | zero => simp [isum]
  | succ k ih =>
    have := ih (by omega)
    have hx := h k
    rw [isum_step zs k (by omega)]
    omega

/-- What holds at the head of each round of zzs1892cbuild's loop. -/
structure BI (w : World) (zs : List Int) (k : Nat) (wr : World) : Prop where
  below : Below w.heap.size w wr
  size : w.heap.size + 2 ≤ wr.heap.size
  res : Twelve wr w.heap.size #[.int .u64 0, .int .u8 0, .float .f64 0, .float .f64 0, .int .u64 0, .int .u64 0, .int .u8 0, .int .u64 0, .string { data := #[] }, .int .u8 0, .int .u64 0, .string { data := #[] }]
  fres : ∀ j, wr.frozen? ⟨w.heap.size, j, none⟩ = false
  fsum : ∀ j, wr.frozen? ⟨w.heap.size + 1, j, none⟩ = false
  sum : ∃ c, SumCells k (isum (zs.take k)) c ∧ Twelve wr (w.heap.size + 1) c

theorem bi_start (w : World) (zs : List Int) : BI w zs 0 ((w.alloc (.cells #[.int .u64 0, .int .u8 0, .float .f64 0, .float .f64 0, .int .u64 0, .int .u64 0, .int .u8 0, .int .u64 0, .string { data := #[] }, .int .u8 0, .int .u64 0, .string { data := #[] }] 33)).alloc (.cells #[.int .u64 0, .int .u8 0, .float .f64 0, .float .f64 0, .int .u64 0, .int .u64 0, .int .u8 0, .int .u64 0, .string { data := #[] }, .int .u8 0, .int .u64 0, .string { data := #[] }] 33)) := by
  refine ⟨((Below.refl _ _).alloc (Nat.le_refl _) _).alloc (by simp) _, by simp, ?_, ?_, ?_, _, Or.inl ⟨rfl, rfl, rfl⟩, ?_⟩
  · intro j hj
    rcases cases12 hj with rfl | rfl | rfl | rfl | rfl | rfl | rfl | rfl | rfl | rfl | rfl | rfl <;> simp [go_sem]
  · intro j; simp [go_sem]
  · intro j; simp [go_sem]
  · intro j hj
    rcases cases12 hj with rfl | rfl | rfl | rfl | rfl | rfl | rfl | rfl | rfl | rfl | rfl | rfl <;> simp [go_sem]

/-- A new block. -/
theorem BI.alloc {w : World} {zs : List Int} {k : Nat} {wr : World} (h : BI w zs k wr) (o : Obj) : BI w zs k (wr.alloc o) := by
  have hs := h.size
  obtain ⟨c, h1, h2⟩ := h.sum
  exact ⟨h.below.alloc (by omega) o, by simp; omega, fun j hj => (World.cell?_alloc_past _ _ _ (by omega)).trans (h.res j hj), fun j => (World.frozen?_alloc_past _ _ _ (by omega)).trans (h.fres j), fun j => (World.frozen?_alloc_past _ _ _ (by omega)).trans (h.fsum j), c, h1, fun j hj => (World.cell?_alloc_past _ _ _ (by omega)).trans (h2 j hj)⟩

/-- The summary's block written. -/
theorem BI.next {w : World} {zs : List Int} {k k' : Nat} {wr wr' : World} (h : BI w zs k wr) (hB : But (w.heap.size + 1) wr wr') (hS : ∃ c, SumCells k' (isum (zs.take k')) c ∧ Twelve wr' (w.heap.size + 1) c) : BI w zs k' wr' := by
  have hs := h.size
  have hz := hB.size
  have hblk := hB.block w.heap.size (by omega) (by omega)
  refine ⟨h.below.trans ⟨hB.os, hB.tape, hB.output, hB.size, fun i hi => hB.block i (by omega) (by omega)⟩, by omega, fun j hj => ?_, fun j => ?_, fun j => (hB.frozen j).trans (h.fsum j), hS⟩
  · exact (World.cell?_of_block (w := wr) (a := ⟨w.heap.size, j, none⟩) hblk).trans (h.res j hj)
  · exact (World.frozen?_of_block (w := wr) (a := ⟨w.heap.size, j, none⟩) hblk).trans (h.fres j)

set_option maxHeartbeats 1000000 in
/-- query.zzs1892cbuild of a slice. -/
theorem build_any (bx off n c : Nat) (zs : List Int) (w : World) (hn : n ≤ 4096) (hz : n ≤ zs.length) (hbx : bx < w.heap.size) (hcell : ∀ j, j < n → w.cell? ⟨bx, off + j, none⟩ = some (.int .i8 (zs.getD j 0))) (hr : ∀ j, -128 ≤ zs.getD j 0 ∧ zs.getD j 0 ≤ 127) :
    Calls Ybaf.prog 6 #[.slice (some ⟨bx, off, none⟩) n c] w fun e w' => ∃ cs, e = .returned (.agg cs) ∧ SumCells n (isum (zs.take n)) cs ∧ Below w.heap.size w w' := by
  have HC : Hid (∀ j, j < n → w.cell? ⟨bx, off + j, none⟩ = some (.int .i8 (zs.getD j 0))) := hcell
  have HR : Hid (∀ j, -128 ≤ zs.getD j 0 ∧ zs.getD j 0 ≤ 127) := hr
  clear hcell hr
  go_enter Ybaf.func6, Ybaf.ntmps6
  go_wp2
  go_loopw [8] (fun i wr => ∃ k : Nat, k ≤ n ∧ i = .int .i64 k ∧ Hid (BI w zs k wr)) (fun i _ => n - (intOf i).toNat)
  case atStart => exact ⟨0, Nat.zero_le _, rfl, bi_start w zs⟩
  case round =>
    obtain ⟨k, hk, rfl, HB⟩ := hrel
    by_cases hlt : k < n
    · have hx := HR.out k
      have hst := isum_step zs k (by omega)
      have hb1 := isum_bound zs HR.out k (by omega)
      have hb2 := isum_bound zs HR.out (k + 1) (by omega)
      have cx : wr.cell? ⟨bx, off + k, none⟩ = some (.int .i8 (zs.getD k 0)) := (HB.out.below.cell (p := ⟨bx, off + k, none⟩) hbx).trans (HC.out k hlt)
      obtain ⟨cs, hS, hT⟩ := HB.out.sum
      have hsz := HB.out.size
      have A := fun (o : Obj) => add_any (w.heap.size + 1) k (isum (zs.take k)) (zs.getD k 0) cs (by omega) (by omega) (by omega) (by rw [← hst]; omega) hS (wr.alloc o) (by simp; omega) (fun j hj => (World.cell?_alloc_past _ _ _ (by omega)).trans (hT j hj)) (fun j => (World.frozen?_alloc_past _ _ _ (by omega)).trans (HB.out.fsum j))
      rw [← hst] at A
      generalize zs.getD k 0 = x at cx A
      clear hst hb1 hb2 hS hT hx
      have hG : floatOfInt .f64 x = G 0 x := rfl
      go_wp2_with (first | (go_at_call 7; refine (floatValue _ _).mono ?_; rintro e w' ⟨rfl, c', rfl⟩) | (go_at_call 13; refine (A _).mono ?_; rintro e w' ⟨rfl, hB, hS'⟩))
      go_roundw
      case rel => exact ⟨k + 1, by omega, by go_num, (HB.out.alloc _).next hB hS'⟩
      case measure => simp [intOf]; omega
    · have hkn : k = n := by omega
      subst hkn
      obtain ⟨cs, hS, hT⟩ := HB.out.sum
      have HSC : Hid (SumCells k (isum (zs.take k)) cs) := hS
      have r0 : wr.cell? ⟨w.heap.size, 0, none⟩ = some (.int .u64 0) := HB.out.res 0 (by decide)
      have f0 := HB.out.fres 0
      have r1 : wr.cell? ⟨w.heap.size, 1, none⟩ = some (.int .u8 0) := HB.out.res 1 (by decide)
      have f1 := HB.out.fres 1
      have r2 : wr.cell? ⟨w.heap.size, 2, none⟩ = some (.float .f64 0) := HB.out.res 2 (by decide)
      have f2 := HB.out.fres 2
      have r3 : wr.cell? ⟨w.heap.size, 3, none⟩ = some (.float .f64 0) := HB.out.res 3 (by decide)
      have f3 := HB.out.fres 3
      have r4 : wr.cell? ⟨w.heap.size, 4, none⟩ = some (.int .u64 0) := HB.out.res 4 (by decide)
      have f4 := HB.out.fres 4
      have r5 : wr.cell? ⟨w.heap.size, 5, none⟩ = some (.int .u64 0) := HB.out.res 5 (by decide)
      have f5 := HB.out.fres 5
      have r6 : wr.cell? ⟨w.heap.size, 6, none⟩ = some (.int .u8 0) := HB.out.res 6 (by decide)
      have f6 := HB.out.fres 6
      have r7 : wr.cell? ⟨w.heap.size, 7, none⟩ = some (.int .u64 0) := HB.out.res 7 (by decide)
      have f7 := HB.out.fres 7
      have r8 : wr.cell? ⟨w.heap.size, 8, none⟩ = some (.string { data := #[] }) := HB.out.res 8 (by decide)
      have f8 := HB.out.fres 8
      have r9 : wr.cell? ⟨w.heap.size, 9, none⟩ = some (.int .u8 0) := HB.out.res 9 (by decide)
      have f9 := HB.out.fres 9
      have r10 : wr.cell? ⟨w.heap.size, 10, none⟩ = some (.int .u64 0) := HB.out.res 10 (by decide)
      have f10 := HB.out.fres 10
      have r11 : wr.cell? ⟨w.heap.size, 11, none⟩ = some (.string { data := #[] }) := HB.out.res 11 (by decide)
      have f11 := HB.out.fres 11
      rcases hS with ⟨hk0, ht0, rfl⟩ | ⟨hk0, mi, ma, rfl⟩
      · clear hk0 ht0
        have s0 : wr.cell? ⟨w.heap.size + 1, 0, none⟩ = some (.int .u64 0) := hT 0 (by decide)
        have s1 : wr.cell? ⟨w.heap.size + 1, 1, none⟩ = some (.int .u8 0) := hT 1 (by decide)
        have s2 : wr.cell? ⟨w.heap.size + 1, 2, none⟩ = some (.float .f64 0) := hT 2 (by decide)
        have s3 : wr.cell? ⟨w.heap.size + 1, 3, none⟩ = some (.float .f64 0) := hT 3 (by decide)
        have s4 : wr.cell? ⟨w.heap.size + 1, 4, none⟩ = some (.int .u64 0) := hT 4 (by decide)
        have s5 : wr.cell? ⟨w.heap.size + 1, 5, none⟩ = some (.int .u64 0) := hT 5 (by decide)
        have s6 : wr.cell? ⟨w.heap.size + 1, 6, none⟩ = some (.int .u8 0) := hT 6 (by decide)
        have s7 : wr.cell? ⟨w.heap.size + 1, 7, none⟩ = some (.int .u64 0) := hT 7 (by decide)
        have s8 : wr.cell? ⟨w.heap.size + 1, 8, none⟩ = some (.string { data := #[] }) := hT 8 (by decide)
        have s9 : wr.cell? ⟨w.heap.size + 1, 9, none⟩ = some (.int .u8 0) := hT 9 (by decide)
        have s10 : wr.cell? ⟨w.heap.size + 1, 10, none⟩ = some (.int .u64 0) := hT 10 (by decide)
        have s11 : wr.cell? ⟨w.heap.size + 1, 11, none⟩ = some (.string { data := #[] }) := hT 11 (by decide)
        clear hT
        go_wp2
        refine bodyPost_ret (v := .agg #[.int .u64 0, .int .u8 0, .float .f64 0, .float .f64 0, .int .u64 0, .int .u64 0, .int .u8 0, .int .u64 0, .string { data := #[] }, .int .u8 0, .int .u64 0, .string { data := #[] }]) (by simp [results, Ybaf.results6, go_sem, r0, r1, r2, r3, r4, r5, r6, r7, r8, r9, r10, r11]) rfl ⟨_, rfl, HSC.out, ?_⟩
        exact ((((((((((((HB.out.below.setCell (by simp) _).setCell (by simp) _).setCell (by simp) _).setCell (by simp) _).setCell (by simp) _).setCell (by simp) _).setCell (by simp) _).setCell (by simp) _).setCell (by simp) _).setCell (by simp) _).setCell (by simp) _).setCell (by simp) _)
      · clear hk0
        generalize G 0 (isum (zs.take k)) = p0 at hT HSC
        generalize G (-64) (isum (zs.take k)) = p1 at hT HSC
        have s0 : wr.cell? ⟨w.heap.size + 1, 0, none⟩ = some (.int .u64 (k : Int)) := hT 0 (by decide)
        have s1 : wr.cell? ⟨w.heap.size + 1, 1, none⟩ = some (.int .u8 1) := hT 1 (by decide)
        have s2 : wr.cell? ⟨w.heap.size + 1, 2, none⟩ = some (.float .f64 p0) := hT 2 (by decide)
        have s3 : wr.cell? ⟨w.heap.size + 1, 3, none⟩ = some (.float .f64 p1) := hT 3 (by decide)
        have s4 : wr.cell? ⟨w.heap.size + 1, 4, none⟩ = some (.int .u64 0) := hT 4 (by decide)
        have s5 : wr.cell? ⟨w.heap.size + 1, 5, none⟩ = some (.int .u64 0) := hT 5 (by decide)
        have s6 : wr.cell? ⟨w.heap.size + 1, 6, none⟩ = some (.int .u8 1) := hT 6 (by decide)
        have s7 : wr.cell? ⟨w.heap.size + 1, 7, none⟩ = some (.int .u64 mi) := hT 7 (by decide)
        have s8 : wr.cell? ⟨w.heap.size + 1, 8, none⟩ = some (.string { data := #[] }) := hT 8 (by decide)
        have s9 : wr.cell? ⟨w.heap.size + 1, 9, none⟩ = some (.int .u8 1) := hT 9 (by decide)
        have s10 : wr.cell? ⟨w.heap.size + 1, 10, none⟩ = some (.int .u64 ma) := hT 10 (by decide)
        have s11 : wr.cell? ⟨w.heap.size + 1, 11, none⟩ = some (.string { data := #[] }) := hT 11 (by decide)
        clear hT
        go_wp2
        refine bodyPost_ret (v := .agg #[.int .u64 (k : Int), .int .u8 1, .float .f64 p0, .float .f64 p1, .int .u64 0, .int .u64 0, .int .u8 1, .int .u64 mi, .string { data := #[] }, .int .u8 1, .int .u64 ma, .string { data := #[] }]) (by simp [results, Ybaf.results6, go_sem, r0, r1, r2, r3, r4, r5, r6, r7, r8, r9, r10, r11]) rfl ⟨_, rfl, HSC.out, ?_⟩
        exact ((((((((((((HB.out.below.setCell (by simp) _).setCell (by simp) _).setCell (by simp) _).setCell (by simp) _).setCell (by simp) _).setCell (by simp) _).setCell (by simp) _).setCell (by simp) _).setCell (by simp) _).setCell (by simp) _).setCell (by simp) _).setCell (by simp) _)

set_option maxHeartbeats 1000000 in
/-- query.zzs1892cbuild of a slice of length 0, a nil one too. -/
theorem build_empty (a : Option Addr) (c : Nat) (w : World) :
    Calls Ybaf.prog 6 #[.slice a 0 c] w fun e w' => e = .returned (.agg #[.int .u64 0, .int .u8 0, .float .f64 0, .float .f64 0, .int .u64 0, .int .u64 0, .int .u8 0, .int .u64 0, .string { data := #[] }, .int .u8 0, .int .u64 0, .string { data := #[] }]) ∧ Below w.heap.size w w' := by
  go_enter Ybaf.func6, Ybaf.ntmps6
  go_wp2
  go_loopw [8] (fun i wr => i = .int .i64 0 ∧ Hid (BI w [] 0 wr)) (fun i _ => 0 - (intOf i).toNat)
  case atStart => exact ⟨rfl, bi_start w []⟩
  case round =>
    obtain ⟨rfl, HB⟩ := hrel
    obtain ⟨cs, hS, hT⟩ := HB.out.sum
    rcases hS with ⟨_, _, rfl⟩ | ⟨hk0, _⟩
    · have r0 : wr.cell? ⟨w.heap.size, 0, none⟩ = some (.int .u64 0) := HB.out.res 0 (by decide)
      have f0 := HB.out.fres 0
      have s0 : wr.cell? ⟨w.heap.size + 1, 0, none⟩ = some (.int .u64 0) := hT 0 (by decide)
      have r1 : wr.cell? ⟨w.heap.size, 1, none⟩ = some (.int .u8 0) := HB.out.res 1 (by decide)
      have f1 := HB.out.fres 1
      have s1 : wr.cell? ⟨w.heap.size + 1, 1, none⟩ = some (.int .u8 0) := hT 1 (by decide)
      have r2 : wr.cell? ⟨w.heap.size, 2, none⟩ = some (.float .f64 0) := HB.out.res 2 (by decide)
      have f2 := HB.out.fres 2
      have s2 : wr.cell? ⟨w.heap.size + 1, 2, none⟩ = some (.float .f64 0) := hT 2 (by decide)
      have r3 : wr.cell? ⟨w.heap.size, 3, none⟩ = some (.float .f64 0) := HB.out.res 3 (by decide)
      have f3 := HB.out.fres 3
      have s3 : wr.cell? ⟨w.heap.size + 1, 3, none⟩ = some (.float .f64 0) := hT 3 (by decide)
      have r4 : wr.cell? ⟨w.heap.size, 4, none⟩ = some (.int .u64 0) := HB.out.res 4 (by decide)
      have f4 := HB.out.fres 4
      have s4 : wr.cell? ⟨w.heap.size + 1, 4, none⟩ = some (.int .u64 0) := hT 4 (by decide)
      have r5 : wr.cell? ⟨w.heap.size, 5, none⟩ = some (.int .u64 0) := HB.out.res 5 (by decide)
      have f5 := HB.out.fres 5
      have s5 : wr.cell? ⟨w.heap.size + 1, 5, none⟩ = some (.int .u64 0) := hT 5 (by decide)
      have r6 : wr.cell? ⟨w.heap.size, 6, none⟩ = some (.int .u8 0) := HB.out.res 6 (by decide)
      have f6 := HB.out.fres 6
      have s6 : wr.cell? ⟨w.heap.size + 1, 6, none⟩ = some (.int .u8 0) := hT 6 (by decide)
      have r7 : wr.cell? ⟨w.heap.size, 7, none⟩ = some (.int .u64 0) := HB.out.res 7 (by decide)
      have f7 := HB.out.fres 7
      have s7 : wr.cell? ⟨w.heap.size + 1, 7, none⟩ = some (.int .u64 0) := hT 7 (by decide)
      have r8 : wr.cell? ⟨w.heap.size, 8, none⟩ = some (.string { data := #[] }) := HB.out.res 8 (by decide)
      have f8 := HB.out.fres 8
      have s8 : wr.cell? ⟨w.heap.size + 1, 8, none⟩ = some (.string { data := #[] }) := hT 8 (by decide)
      have r9 : wr.cell? ⟨w.heap.size, 9, none⟩ = some (.int .u8 0) := HB.out.res 9 (by decide)
      have f9 := HB.out.fres 9
      have s9 : wr.cell? ⟨w.heap.size + 1, 9, none⟩ = some (.int .u8 0) := hT 9 (by decide)
      have r10 : wr.cell? ⟨w.heap.size, 10, none⟩ = some (.int .u64 0) := HB.out.res 10 (by decide)
      have f10 := HB.out.fres 10
      have s10 : wr.cell? ⟨w.heap.size + 1, 10, none⟩ = some (.int .u64 0) := hT 10 (by decide)
      have r11 : wr.cell? ⟨w.heap.size, 11, none⟩ = some (.string { data := #[] }) := HB.out.res 11 (by decide)
      have f11 := HB.out.fres 11
      have s11 : wr.cell? ⟨w.heap.size + 1, 11, none⟩ = some (.string { data := #[] }) := hT 11 (by decide)
      clear hT
      go_wp2
      refine bodyPost_ret (v := .agg #[.int .u64 0, .int .u8 0, .float .f64 0, .float .f64 0, .int .u64 0, .int .u64 0, .int .u8 0, .int .u64 0, .string { data := #[] }, .int .u8 0, .int .u64 0, .string { data := #[] }]) (by simp [results, Ybaf.results6, go_sem, r0, r1, r2, r3, r4, r5, r6, r7, r8, r9, r10, r11]) rfl ⟨rfl, ?_⟩
      exact ((((((((((((HB.out.below.setCell (by simp) _).setCell (by simp) _).setCell (by simp) _).setCell (by simp) _).setCell (by simp) _).setCell (by simp) _).setCell (by simp) _).setCell (by simp) _).setCell (by simp) _).setCell (by simp) _).setCell (by simp) _).setCell (by simp) _)
    · exact absurd rfl hk0
end Go.Proofs.YbulkamduFmt
