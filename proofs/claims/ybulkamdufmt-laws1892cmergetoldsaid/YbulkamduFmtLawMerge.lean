/-
  The walk of LawS1892CMerge.
-/
import Derived.Test.YbulkamduFmtLawMean
namespace Go.Proofs.YbulkamduFmt
open Go.RowKit Go.Extern.Stop Go.Stop Go.Extern
attribute [local go_sem] run_store_float

/-- More than 4096 elements. -/
theorem law_long (a : Option Addr) (n c : Nat) (sel : Int) (h : 4096 < n) (w : World) : Calls Ybaf.prog 4 #[.slice a n c, .int .u16 sel] w fun e w' => e = .returned (.bool true) ∧ Below w.heap.size w w' := by
  have h' : (4096 : Int) < (n : Int) := by omega
  go_enter Ybaf.func4, Ybaf.ntmps4
  go_wp2
  go_ret
  exact ⟨rfl, Below.refl _ _⟩

theorem Below.but {B b : Nat} {w w1 w2 : World} (h : Below B w w1) (k : But b w1 w2) (hb : B ≤ b) (hs : B ≤ w1.heap.size) : Below B w w2 :=
  h.trans ⟨k.os, k.tape, k.output, k.size, fun i hi => k.block i (by omega) (by omega)⟩

theorem below_drawn {B : Nat} {w w' : World} (h : Below B w w') (n : Nat) : Below B w (w'.drewN n) := ⟨h.os, h.tape, h.output, h.size, h.block⟩

theorem Twelve.new (w : World) (c : Array Value) : Twelve (w.alloc (.cells c 33)) w.heap.size c := fun _ _ => World.cell?_alloc_at _ _ _ _ rfl

theorem isum_split (zs : List Int) (k k' : Nat) : isum (zs.take k) + isum ((zs.drop k).take k') = isum (zs.take (k + k')) := by
  rw [List.take_add, isum_append]

theorem drop_getD (zs : List Int) (k j : Nat) : (zs.drop k).getD j 0 = zs.getD (k + j) 0 := by
  simp [List.getD, List.getElem?_drop]

set_option maxHeartbeats 4000000 in
/-- Both parts hold elements. -/
theorem law_mid (bx off k k' c : Nat) (zs : List Int) (sel : Int) (w : World) (s0 : 0 ≤ sel) (s1 : sel ≤ 65535) (h0 : k ≠ 0) (h0' : k' ≠ 0) (hn : k + k' ≤ 4096) (hz : k + k' ≤ zs.length) (hc : k + k' ≤ c) (hsel : sel % ((k : Int) + (k' : Int) + 1) = (k : Int))
    (hbx : bx < w.heap.size) (hcell : ∀ j, j < k + k' → w.cell? ⟨bx, off + j, none⟩ = some (.int .i8 (zs.getD j 0))) (hr : ∀ j, -128 ≤ zs.getD j 0 ∧ zs.getD j 0 ≤ 127) :
    Calls Ybaf.prog 4 #[.slice (some ⟨bx, off, none⟩) (k + k') c, .int .u16 sel] w fun e w' => e = .returned (.bool true) ∧ Below w.heap.size w w' := by
  have hb := isum_bound zs hr (k + k') hz
  obtain ⟨r, hq⟩ := div_G (isum (zs.take (k + k'))) ((k : Int) + (k' : Int)) (by omega) (by omega) (by omega)
  have M := fun (mi ma : Nat) (w : World) => mean1 ((k : Int) + (k' : Int)) (isum (zs.take (k + k'))) mi ma (by omega) r hq w
  have BF := fun (cc : Nat) (w' : World) (h : Below w.heap.size w w') => build_some bx off (k + k') cc zs w' (by omega) hn hz (Nat.lt_of_lt_of_le hbx h.size) (fun j hj => (h.cell (p := ⟨bx, off + j, none⟩) hbx).trans (hcell j hj)) hr
  have hsp := isum_split zs k k'
  have hba := isum_bound zs hr k (by omega)
  have hr2 : ∀ j, -128 ≤ (zs.drop k).getD j 0 ∧ (zs.drop k).getD j 0 ≤ 127 := fun j => by rw [drop_getD]; exact hr _
  have hbb := isum_bound (zs.drop k) hr2 k' (by simp; omega)
  have BA := build_some bx off k c zs w h0 (by omega) (by omega) hbx (fun j hj => hcell j (by omega)) hr
  have BB := fun (w' : World) (h : Below w.heap.size w w') => build_some bx (off + k) k' (c - k) (zs.drop k) w' h0' (by omega) (by simp; omega) (Nat.lt_of_lt_of_le hbx h.size) (fun j hj => by rw [drop_getD, Nat.add_assoc]; exact (h.cell (p := ⟨bx, off + (k + j), none⟩) hbx).trans (hcell (k + j) (by omega))) hr2
  have MG : ∀ (b mi ma mi' ma' : Nat) (w0 : World), b < w0.heap.size → Twelve w0 b #[.int .u64 (k : Int), .int .u8 1, .float .f64 (G 0 (isum (zs.take k))), .float .f64 (G (-64) (isum (zs.take k))), .int .u64 0, .int .u64 0, .int .u8 1, .int .u64 mi, .string { data := #[] }, .int .u8 1, .int .u64 ma, .string { data := #[] }] → (∀ j, w0.frozen? ⟨b, j, none⟩ = false) →
      Calls Ybaf.prog 8 #[.pointer (some ⟨b, 0, none⟩), .agg #[.int .u64 (k' : Int), .int .u8 1, .float .f64 (G 0 (isum ((zs.drop k).take k'))), .float .f64 (G (-64) (isum ((zs.drop k).take k'))), .int .u64 0, .int .u64 0, .int .u8 1, .int .u64 mi', .string { data := #[] }, .int .u8 1, .int .u64 ma', .string { data := #[] }]] w0 fun e w' => e = .returned (.tuple #[]) ∧ But b w0 w' ∧ ∃ m1 m2 : Nat, Twelve w' b #[.int .u64 ((k : Int) + (k' : Int)), .int .u8 1, .float .f64 (G 0 (isum (zs.take (k + k')))), .float .f64 (G (-64) (isum (zs.take (k + k')))), .int .u64 0, .int .u64 0, .int .u8 1, .int .u64 m1, .string { data := #[] }, .int .u8 1, .int .u64 m2, .string { data := #[] }] := by
    intro b mi ma mi' ma' w0 g1 g2 g3
    refine (merge_some b k k' (isum (zs.take k)) (isum ((zs.drop k).take k')) mi' ma' #[.int .u64 (k : Int), .int .u8 1, .float .f64 (G 0 (isum (zs.take k))), .float .f64 (G (-64) (isum (zs.take k))), .int .u64 0, .int .u64 0, .int .u8 1, .int .u64 mi, .string { data := #[] }, .int .u8 1, .int .u64 ma, .string { data := #[] }] (by omega) (by omega) h0' (by omega) (by omega) (by omega) (Or.inr ⟨h0, mi, ma, rfl⟩) w0 g1 g2 g3).mono ?_
    rintro e w' ⟨he, hB, c', hS, hT⟩
    rcases hS with ⟨hk, _⟩ | ⟨_, m1, m2, rfl⟩
    · omega
    · refine ⟨he, hB, m1, m2, ?_⟩
      rw [hsp] at hT
      first | exact hT | simpa only [Int.natCast_add, Nat.zero_add] using hT
  simp only [Int.natCast_add] at BF
  clear hq hb hba hbb hsp hr2 hcell hr
  generalize G 0 (isum (zs.take (k + k'))) = p0 at M BF MG
  generalize G (-64) (isum (zs.take (k + k'))) = p1 at M BF MG
  generalize G 0 (isum (zs.take k)) = pa0 at BA MG
  generalize G (-64) (isum (zs.take k)) = pa1 at BA MG
  generalize G 0 (isum ((zs.drop k).take k')) = pb0 at BB MG
  generalize G (-64) (isum ((zs.drop k).take k')) = pb1 at BB MG
  go_enter Ybaf.func4, Ybaf.ntmps4
  go_wp2_with fail
  refine BA.mono ?_
  rintro e w1 ⟨mi, ma, rfl, hb1⟩
  have HB1 : Hid (Below w.heap.size w w1) := hb1
  clear BA hb1
  go_wp2_with fail
  have hB1 : Below w.heap.size w (w1.alloc (.cells #[.int .u64 (k : Int), .int .u8 1, .float .f64 pa0, .float .f64 pa1, .int .u64 0, .int .u64 0, .int .u8 1, .int .u64 mi, .string { data := #[] }, .int .u8 1, .int .u64 ma, .string { data := #[] }] 33)) := HB1.out.alloc HB1.out.size _
  refine (BB (w1.alloc (.cells #[.int .u64 (k : Int), .int .u8 1, .float .f64 pa0, .float .f64 pa1, .int .u64 0, .int .u64 0, .int .u8 1, .int .u64 mi, .string { data := #[] }, .int .u8 1, .int .u64 ma, .string { data := #[] }] 33)) hB1).mono ?_
  rintro e w2 ⟨mi', ma', rfl, hb2⟩
  have HB2 : Hid (Below w.heap.size w w2) := hB1.trans (hb2.mono hB1.size)
  have HT2 : Hid (Twelve w2 w1.heap.size #[.int .u64 (k : Int), .int .u8 1, .float .f64 pa0, .float .f64 pa1, .int .u64 0, .int .u64 0, .int .u8 1, .int .u64 mi, .string { data := #[] }, .int .u8 1, .int .u64 ma, .string { data := #[] }]) := Twelve.of_below hb2 (by simp) (Twelve.new w1 _)
  have HF2 : Hid (∀ j, w2.frozen? ⟨w1.heap.size, j, none⟩ = false) := fun j => (hb2.frozen (p := ⟨w1.heap.size, j, none⟩) (by simp)).trans (World.frozen?_alloc_at _ _ _ _ rfl)
  have HZ2 : Hid (w1.heap.size < w2.heap.size) := by have := hb2.size; simp at this; exact (by omega : w1.heap.size < w2.heap.size)
  clear BB hB1 hb2
  go_wp2_with fail
  refine (MG w1.heap.size mi ma mi' ma' _ (by have := HZ2.out; simp; omega) (fun j hj => (World.cell?_alloc_past _ _ _ HZ2.out).trans (HT2.out j hj)) (fun j => (World.frozen?_alloc_past _ _ _ HZ2.out).trans (HF2.out j))).mono ?_
  rintro e w4 ⟨rfl, hB4, m1, m2, hT⟩
  have HB4 : Hid (Below w.heap.size w w4) := Below.but (HB2.out.alloc HB2.out.size _) hB4 HB1.out.size (by have := HB2.out.size; simp; omega)
  clear MG hB4 HB1 HB2 HT2 HF2 HZ2
  have s0 : w4.cell? ⟨w1.heap.size, 0, none⟩ = some (.int .u64 ((k : Int) + (k' : Int))) := hT 0 (by decide)
  have s1 : w4.cell? ⟨w1.heap.size, 1, none⟩ = some (.int .u8 1) := hT 1 (by decide)
  have s2 : w4.cell? ⟨w1.heap.size, 2, none⟩ = some (.float .f64 p0) := hT 2 (by decide)
  have s3 : w4.cell? ⟨w1.heap.size, 3, none⟩ = some (.float .f64 p1) := hT 3 (by decide)
  have s4 : w4.cell? ⟨w1.heap.size, 4, none⟩ = some (.int .u64 0) := hT 4 (by decide)
  have s5 : w4.cell? ⟨w1.heap.size, 5, none⟩ = some (.int .u64 0) := hT 5 (by decide)
  have s6 : w4.cell? ⟨w1.heap.size, 6, none⟩ = some (.int .u8 1) := hT 6 (by decide)
  have s7 : w4.cell? ⟨w1.heap.size, 7, none⟩ = some (.int .u64 m1) := hT 7 (by decide)
  have s8 : w4.cell? ⟨w1.heap.size, 8, none⟩ = some (.string { data := #[] }) := hT 8 (by decide)
  have s9 : w4.cell? ⟨w1.heap.size, 9, none⟩ = some (.int .u8 1) := hT 9 (by decide)
  have s10 : w4.cell? ⟨w1.heap.size, 10, none⟩ = some (.int .u64 m2) := hT 10 (by decide)
  have s11 : w4.cell? ⟨w1.heap.size, 11, none⟩ = some (.string { data := #[] }) := hT 11 (by decide)
  clear hT
  go_wp2_with fail
  refine (M m1 m2 _).mono ?_
  rintro e w5 ⟨rfl, hb5⟩
  have HB5 : Hid (Below w.heap.size w w5) := HB4.out.trans (hb5.mono HB4.out.size)
  clear hb5 s0 s1 s2 s3 s4 s5 s6 s7 s8 s9 s10 s11
  go_wp2_with fail
  have hB5 : Below w.heap.size w (w5.alloc (.cells #[.int .u8 1, .int .u64 r, .string { data := #[] }] 26)) := HB5.out.alloc HB5.out.size _
  refine (BF _ (w5.alloc (.cells #[.int .u8 1, .int .u64 r, .string { data := #[] }] 26)) hB5).mono ?_
  rintro e w6 ⟨m3, m4, rfl, hb6⟩
  have HB6 : Hid (Below w.heap.size w w6) := hB5.trans (hb6.mono hB5.size)
  have q0 : w6.cell? ⟨w5.heap.size, 0, none⟩ = some (.int .u8 1) := (hb6.cell (p := ⟨w5.heap.size, 0, none⟩) (by simp)).trans (by simp [go_sem])
  have q1 : w6.cell? ⟨w5.heap.size, 1, none⟩ = some (.int .u64 r) := (hb6.cell (p := ⟨w5.heap.size, 1, none⟩) (by simp)).trans (by simp [go_sem])
  have q2 : w6.cell? ⟨w5.heap.size, 2, none⟩ = some (.string { data := #[] }) := (hb6.cell (p := ⟨w5.heap.size, 2, none⟩) (by simp)).trans (by simp [go_sem])
  have z6 : w5.heap.size < w6.heap.size := by have := hb6.size; simp at this; omega
  clear hB5 hb6
  go_wp2_with fail
  refine (M m3 m4 _).mono ?_
  rintro e w7 ⟨rfl, hb7⟩
  have HB7 : Hid (Below w.heap.size w w7) := HB6.out.trans (hb7.mono HB6.out.size)
  have r0 : w7.cell? ⟨w5.heap.size, 0, none⟩ = some (.int .u8 1) := (hb7.cell (p := ⟨w5.heap.size, 0, none⟩) z6).trans q0
  have r1 : w7.cell? ⟨w5.heap.size, 1, none⟩ = some (.int .u64 r) := (hb7.cell (p := ⟨w5.heap.size, 1, none⟩) z6).trans q1
  have r2 : w7.cell? ⟨w5.heap.size, 2, none⟩ = some (.string { data := #[] }) := (hb7.cell (p := ⟨w5.heap.size, 2, none⟩) z6).trans q2
  have z7 : w5.heap.size < w7.heap.size := by have := hb7.size; omega
  clear hb7 q0 q1 q2 z6 M BF
  go_wp2
  go_quiet (fail)
  go_wp2
  go_ret
  exact ⟨rfl, below_drawn (HB7.out.alloc HB7.out.size _) _⟩

set_option maxHeartbeats 4000000 in
/-- All elements lie in the second part. -/
theorem law_first (bx off n c : Nat) (zs : List Int) (sel : Int) (w : World) (s0 : 0 ≤ sel) (s1 : sel ≤ 65535) (h0 : n ≠ 0) (hn : n ≤ 4096) (hz : n ≤ zs.length) (hc : n ≤ c) (hsel : sel % ((n : Int) + 1) = 0)
    (hbx : bx < w.heap.size) (hcell : ∀ j, j < n → w.cell? ⟨bx, off + j, none⟩ = some (.int .i8 (zs.getD j 0))) (hr : ∀ j, -128 ≤ zs.getD j 0 ∧ zs.getD j 0 ≤ 127) :
    Calls Ybaf.prog 4 #[.slice (some ⟨bx, off, none⟩) n c, .int .u16 sel] w fun e w' => e = .returned (.bool true) ∧ Below w.heap.size w w' := by
  have hb := isum_bound zs hr (n) hz
  obtain ⟨r, hq⟩ := div_G (isum (zs.take (n))) (n : Int) (by omega) (by omega) (by omega)
  have M := fun (mi ma : Nat) (w : World) => mean1 (n : Int) (isum (zs.take (n))) mi ma (by omega) r hq w
  have BF := fun (cc : Nat) (w' : World) (h : Below w.heap.size w w') => build_some bx off (n) cc zs w' (by omega) hn hz (Nat.lt_of_lt_of_le hbx h.size) (fun j hj => (h.cell (p := ⟨bx, off + j, none⟩) hbx).trans (hcell j hj)) hr
  have hsp : 0 + isum (zs.take n) = isum (zs.take n) := Int.zero_add _
  have MG : ∀ (b mi ma mi' ma' : Nat) (w0 : World), b < w0.heap.size → Twelve w0 b #[.int .u64 0, .int .u8 0, .float .f64 0, .float .f64 0, .int .u64 0, .int .u64 0, .int .u8 0, .int .u64 0, .string { data := #[] }, .int .u8 0, .int .u64 0, .string { data := #[] }] → (∀ j, w0.frozen? ⟨b, j, none⟩ = false) →
      Calls Ybaf.prog 8 #[.pointer (some ⟨b, 0, none⟩), .agg #[.int .u64 (n : Int), .int .u8 1, .float .f64 (G 0 (isum (zs.take n))), .float .f64 (G (-64) (isum (zs.take n))), .int .u64 0, .int .u64 0, .int .u8 1, .int .u64 mi', .string { data := #[] }, .int .u8 1, .int .u64 ma', .string { data := #[] }]] w0 fun e w' => e = .returned (.tuple #[]) ∧ But b w0 w' ∧ ∃ m1 m2 : Nat, Twelve w' b #[.int .u64 (n : Int), .int .u8 1, .float .f64 (G 0 (isum (zs.take n))), .float .f64 (G (-64) (isum (zs.take n))), .int .u64 0, .int .u64 0, .int .u8 1, .int .u64 m1, .string { data := #[] }, .int .u8 1, .int .u64 m2, .string { data := #[] }] := by
    intro b mi ma mi' ma' w0 g1 g2 g3
    refine (merge_some b 0 n 0 (isum (zs.take n)) mi' ma' #[.int .u64 0, .int .u8 0, .float .f64 0, .float .f64 0, .int .u64 0, .int .u64 0, .int .u8 0, .int .u64 0, .string { data := #[] }, .int .u8 0, .int .u64 0, .string { data := #[] }] (by omega) (by omega) h0 (by decide) (by omega) (by rw [hsp]; omega) (Or.inl ⟨rfl, rfl, rfl⟩) w0 g1 g2 g3).mono ?_
    rintro e w' ⟨he, hB, c', hS, hT⟩
    rcases hS with ⟨hk, _⟩ | ⟨_, m1, m2, rfl⟩
    · omega
    · refine ⟨he, hB, m1, m2, ?_⟩
      rw [hsp] at hT
      first | exact hT | simpa only [Int.natCast_add, Nat.zero_add] using hT
  clear hq hb hsp hcell hr
  have n0 : 0 < (n : Int) := by omega
  generalize G 0 (isum (zs.take n)) = p0 at M BF MG
  generalize G (-64) (isum (zs.take n)) = p1 at M BF MG
  go_enter Ybaf.func4, Ybaf.ntmps4
  go_wp2_with fail
  refine (build_empty _ _ _).mono ?_
  rintro e w1 ⟨rfl, hb1⟩
  have HB1 : Hid (Below w.heap.size w w1) := hb1
  clear hb1
  go_wp2_with fail
  have hB1 : Below w.heap.size w (w1.alloc (.cells #[.int .u64 0, .int .u8 0, .float .f64 0, .float .f64 0, .int .u64 0, .int .u64 0, .int .u8 0, .int .u64 0, .string { data := #[] }, .int .u8 0, .int .u64 0, .string { data := #[] }] 33)) := HB1.out.alloc HB1.out.size _
  refine (BF _ (w1.alloc (.cells #[.int .u64 0, .int .u8 0, .float .f64 0, .float .f64 0, .int .u64 0, .int .u64 0, .int .u8 0, .int .u64 0, .string { data := #[] }, .int .u8 0, .int .u64 0, .string { data := #[] }] 33)) hB1).mono ?_
  rintro e w2 ⟨mi', ma', rfl, hb2⟩
  have HB2 : Hid (Below w.heap.size w w2) := hB1.trans (hb2.mono hB1.size)
  have HT2 : Hid (Twelve w2 w1.heap.size #[.int .u64 0, .int .u8 0, .float .f64 0, .float .f64 0, .int .u64 0, .int .u64 0, .int .u8 0, .int .u64 0, .string { data := #[] }, .int .u8 0, .int .u64 0, .string { data := #[] }]) := Twelve.of_below hb2 (by simp) (Twelve.new w1 _)
  have HF2 : Hid (∀ j, w2.frozen? ⟨w1.heap.size, j, none⟩ = false) := fun j => (hb2.frozen (p := ⟨w1.heap.size, j, none⟩) (by simp)).trans (World.frozen?_alloc_at _ _ _ _ rfl)
  have HZ2 : Hid (w1.heap.size < w2.heap.size) := by have := hb2.size; simp at this; exact (by omega : w1.heap.size < w2.heap.size)
  clear hB1 hb2
  go_wp2_with fail
  refine (MG w1.heap.size 0 0 mi' ma' _ (by have := HZ2.out; simp; omega) (fun j hj => (World.cell?_alloc_past _ _ _ HZ2.out).trans (HT2.out j hj)) (fun j => (World.frozen?_alloc_past _ _ _ HZ2.out).trans (HF2.out j))).mono ?_
  rintro e w4 ⟨rfl, hB4, m1, m2, hT⟩
  have HB4 : Hid (Below w.heap.size w w4) := Below.but (HB2.out.alloc HB2.out.size _) hB4 HB1.out.size (by have := HB2.out.size; simp; omega)
  clear MG hB4 HB1 HB2 HT2 HF2 HZ2
  have s0 : w4.cell? ⟨w1.heap.size, 0, none⟩ = some (.int .u64 (n : Int)) := hT 0 (by decide)
  have s1 : w4.cell? ⟨w1.heap.size, 1, none⟩ = some (.int .u8 1) := hT 1 (by decide)
  have s2 : w4.cell? ⟨w1.heap.size, 2, none⟩ = some (.float .f64 p0) := hT 2 (by decide)
  have s3 : w4.cell? ⟨w1.heap.size, 3, none⟩ = some (.float .f64 p1) := hT 3 (by decide)
  have s4 : w4.cell? ⟨w1.heap.size, 4, none⟩ = some (.int .u64 0) := hT 4 (by decide)
  have s5 : w4.cell? ⟨w1.heap.size, 5, none⟩ = some (.int .u64 0) := hT 5 (by decide)
  have s6 : w4.cell? ⟨w1.heap.size, 6, none⟩ = some (.int .u8 1) := hT 6 (by decide)
  have s7 : w4.cell? ⟨w1.heap.size, 7, none⟩ = some (.int .u64 m1) := hT 7 (by decide)
  have s8 : w4.cell? ⟨w1.heap.size, 8, none⟩ = some (.string { data := #[] }) := hT 8 (by decide)
  have s9 : w4.cell? ⟨w1.heap.size, 9, none⟩ = some (.int .u8 1) := hT 9 (by decide)
  have s10 : w4.cell? ⟨w1.heap.size, 10, none⟩ = some (.int .u64 m2) := hT 10 (by decide)
  have s11 : w4.cell? ⟨w1.heap.size, 11, none⟩ = some (.string { data := #[] }) := hT 11 (by decide)
  clear hT
  go_wp2_with fail
  refine (M m1 m2 _).mono ?_
  rintro e w5 ⟨rfl, hb5⟩
  have HB5 : Hid (Below w.heap.size w w5) := HB4.out.trans (hb5.mono HB4.out.size)
  clear hb5 s0 s1 s2 s3 s4 s5 s6 s7 s8 s9 s10 s11
  go_wp2_with fail
  have hB5 : Below w.heap.size w (w5.alloc (.cells #[.int .u8 1, .int .u64 r, .string { data := #[] }] 26)) := HB5.out.alloc HB5.out.size _
  refine (BF _ (w5.alloc (.cells #[.int .u8 1, .int .u64 r, .string { data := #[] }] 26)) hB5).mono ?_
  rintro e w6 ⟨m3, m4, rfl, hb6⟩
  have HB6 : Hid (Below w.heap.size w w6) := hB5.trans (hb6.mono hB5.size)
  have q0 : w6.cell? ⟨w5.heap.size, 0, none⟩ = some (.int .u8 1) := (hb6.cell (p := ⟨w5.heap.size, 0, none⟩) (by simp)).trans (by simp [go_sem])
  have q1 : w6.cell? ⟨w5.heap.size, 1, none⟩ = some (.int .u64 r) := (hb6.cell (p := ⟨w5.heap.size, 1, none⟩) (by simp)).trans (by simp [go_sem])
  have q2 : w6.cell? ⟨w5.heap.size, 2, none⟩ = some (.string { data := #[] }) := (hb6.cell (p := ⟨w5.heap.size, 2, none⟩) (by simp)).trans (by simp [go_sem])
  have z6 : w5.heap.size < w6.heap.size := by have := hb6.size; simp at this; omega
  clear hB5 hb6
  go_wp2_with fail
  refine (M m3 m4 _).mono ?_
  rintro e w7 ⟨rfl, hb7⟩
  have HB7 : Hid (Below w.heap.size w w7) := HB6.out.trans (hb7.mono HB6.out.size)
  have r0 : w7.cell? ⟨w5.heap.size, 0, none⟩ = some (.int .u8 1) := (hb7.cell (p := ⟨w5.heap.size, 0, none⟩) z6).trans q0
  have r1 : w7.cell? ⟨w5.heap.size, 1, none⟩ = some (.int .u64 r) := (hb7.cell (p := ⟨w5.heap.size, 1, none⟩) z6).trans q1
  have r2 : w7.cell? ⟨w5.heap.size, 2, none⟩ = some (.string { data := #[] }) := (hb7.cell (p := ⟨w5.heap.size, 2, none⟩) z6).trans q2
  have z7 : w5.heap.size < w7.heap.size := by have := hb7.size; omega
  clear hb7 q0 q1 q2 z6 M BF
  go_wp2
  go_quiet (fail)
  go_wp2
  go_ret
  exact ⟨rfl, below_drawn (HB7.out.alloc HB7.out.size _) _⟩

set_option maxHeartbeats 4000000 in
/-- All elements lie in the first part. -/
theorem law_last (bx off n c : Nat) (zs : List Int) (sel : Int) (w : World) (s0 : 0 ≤ sel) (s1 : sel ≤ 65535) (h0 : n ≠ 0) (hn : n ≤ 4096) (hz : n ≤ zs.length) (hc : n ≤ c) (hsel : sel % ((n : Int) + 1) = (n : Int))
    (hbx : bx < w.heap.size) (hcell : ∀ j, j < n → w.cell? ⟨bx, off + j, none⟩ = some (.int .i8 (zs.getD j 0))) (hr : ∀ j, -128 ≤ zs.getD j 0 ∧ zs.getD j 0 ≤ 127) :
    Calls Ybaf.prog 4 #[.slice (some ⟨bx, off, none⟩) n c, .int .u16 sel] w fun e w' => e = .returned (.bool true) ∧ Below w.heap.size w w' := by
  have hb := isum_bound zs hr (n) hz
  obtain ⟨r, hq⟩ := div_G (isum (zs.take (n))) (n : Int) (by omega) (by omega) (by omega)
  have M := fun (mi ma : Nat) (w : World) => mean1 (n : Int) (isum (zs.take (n))) mi ma (by omega) r hq w
  have BF := fun (cc : Nat) (w' : World) (h : Below w.heap.size w w') => build_some bx off (n) cc zs w' (by omega) hn hz (Nat.lt_of_lt_of_le hbx h.size) (fun j hj => (h.cell (p := ⟨bx, off + j, none⟩) hbx).trans (hcell j hj)) hr
  clear hq hb hcell hr
  have n0 : 0 < (n : Int) := by omega
  generalize G 0 (isum (zs.take n)) = p0 at M BF
  generalize G (-64) (isum (zs.take n)) = p1 at M BF
  go_enter Ybaf.func4, Ybaf.ntmps4
  go_wp2_with fail
  refine (BF _ w (Below.refl _ _)).mono ?_
  rintro e w1 ⟨m1, m2, rfl, hb1⟩
  have HB1 : Hid (Below w.heap.size w w1) := hb1
  clear hb1
  go_wp2_with fail
  all_goals
    have hB1 : Below w.heap.size w (w1.alloc (.cells #[.int .u64 (n : Int), .int .u8 1, .float .f64 p0, .float .f64 p1, .int .u64 0, .int .u64 0, .int .u8 1, .int .u64 m1, .string { data := #[] }, .int .u8 1, .int .u64 m2, .string { data := #[] }] 33)) := HB1.out.alloc HB1.out.size _
    refine (build_empty _ _ (w1.alloc (.cells #[.int .u64 (n : Int), .int .u8 1, .float .f64 p0, .float .f64 p1, .int .u64 0, .int .u64 0, .int .u8 1, .int .u64 m1, .string { data := #[] }, .int .u8 1, .int .u64 m2, .string { data := #[] }] 33))).mono ?_
    rintro e w2 ⟨rfl, hb2⟩
    have HB2 : Hid (Below w.heap.size w w2) := hB1.trans (hb2.mono hB1.size)
    have HT2 : Hid (Twelve w2 w1.heap.size #[.int .u64 (n : Int), .int .u8 1, .float .f64 p0, .float .f64 p1, .int .u64 0, .int .u64 0, .int .u8 1, .int .u64 m1, .string { data := #[] }, .int .u8 1, .int .u64 m2, .string { data := #[] }]) := Twelve.of_below hb2 (by simp) (Twelve.new w1 _)
    have HZ2 : Hid (w1.heap.size < w2.heap.size) := by have := hb2.size; simp at this; exact (by omega : w1.heap.size < w2.heap.size)
    clear hB1 hb2
    go_wp2_with fail
    refine (merge_none _ _).mono ?_
    rintro e w4 ⟨rfl, h4⟩
    have hT : Twelve w4 w1.heap.size #[.int .u64 (n : Int), .int .u8 1, .float .f64 p0, .float .f64 p1, .int .u64 0, .int .u64 0, .int .u8 1, .int .u64 m1, .string { data := #[] }, .int .u8 1, .int .u64 m2, .string { data := #[] }] := fun j hj => by rw [h4, World.cell?_alloc_past _ _ _ (by have := HZ2.out; simp; omega), World.cell?_alloc_past _ _ _ HZ2.out]; exact HT2.out j hj
    have HB4 : Hid (Below w.heap.size w w4) := by rw [h4]; exact (HB2.out.alloc HB2.out.size _).alloc (by have := HB2.out.size; simp; omega) _
    clear h4 HB1 HB2 HT2 HZ2
    have s0 : w4.cell? ⟨w1.heap.size, 0, none⟩ = some (.int .u64 (n : Int)) := hT 0 (by decide)
    have s1 : w4.cell? ⟨w1.heap.size, 1, none⟩ = some (.int .u8 1) := hT 1 (by decide)
    have s2 : w4.cell? ⟨w1.heap.size, 2, none⟩ = some (.float .f64 p0) := hT 2 (by decide)
    have s3 : w4.cell? ⟨w1.heap.size, 3, none⟩ = some (.float .f64 p1) := hT 3 (by decide)
    have s4 : w4.cell? ⟨w1.heap.size, 4, none⟩ = some (.int .u64 0) := hT 4 (by decide)
    have s5 : w4.cell? ⟨w1.heap.size, 5, none⟩ = some (.int .u64 0) := hT 5 (by decide)
    have s6 : w4.cell? ⟨w1.heap.size, 6, none⟩ = some (.int .u8 1) := hT 6 (by decide)
    have s7 : w4.cell? ⟨w1.heap.size, 7, none⟩ = some (.int .u64 m1) := hT 7 (by decide)
    have s8 : w4.cell? ⟨w1.heap.size, 8, none⟩ = some (.string { data := #[] }) := hT 8 (by decide)
    have s9 : w4.cell? ⟨w1.heap.size, 9, none⟩ = some (.int .u8 1) := hT 9 (by decide)
    have s10 : w4.cell? ⟨w1.heap.size, 10, none⟩ = some (.int .u64 m2) := hT 10 (by decide)
    have s11 : w4.cell? ⟨w1.heap.size, 11, none⟩ = some (.string { data := #[] }) := hT 11 (by decide)
    clear hT
    go_wp2_with fail
    refine (M m1 m2 _).mono ?_
    rintro e w5 ⟨rfl, hb5⟩
    have HB5 : Hid (Below w.heap.size w w5) := HB4.out.trans (hb5.mono HB4.out.size)
    clear hb5 s0 s1 s2 s3 s4 s5 s6 s7 s8 s9 s10 s11
    go_wp2_with fail
    have hB5 : Below w.heap.size w (w5.alloc (.cells #[.int .u8 1, .int .u64 r, .string { data := #[] }] 26)) := HB5.out.alloc HB5.out.size _
    refine (BF _ (w5.alloc (.cells #[.int .u8 1, .int .u64 r, .string { data := #[] }] 26)) hB5).mono ?_
    rintro e w6 ⟨m3, m4, rfl, hb6⟩
    have HB6 : Hid (Below w.heap.size w w6) := hB5.trans (hb6.mono hB5.size)
    have q0 : w6.cell? ⟨w5.heap.size, 0, none⟩ = some (.int .u8 1) := (hb6.cell (p := ⟨w5.heap.size, 0, none⟩) (by simp)).trans (by simp [go_sem])
    have q1 : w6.cell? ⟨w5.heap.size, 1, none⟩ = some (.int .u64 r) := (hb6.cell (p := ⟨w5.heap.size, 1, none⟩) (by simp)).trans (by simp [go_sem])
    have q2 : w6.cell? ⟨w5.heap.size, 2, none⟩ = some (.string { data := #[] }) := (hb6.cell (p := ⟨w5.heap.size, 2, none⟩) (by simp)).trans (by simp [go_sem])
    have z6 : w5.heap.size < w6.heap.size := by have := hb6.size; simp at this; omega
    clear hB5 hb6
    go_wp2_with fail
    refine (M m3 m4 _).mono ?_
    rintro e w7 ⟨rfl, hb7⟩
    have HB7 : Hid (Below w.heap.size w w7) := HB6.out.trans (hb7.mono HB6.out.size)
    have r0 : w7.cell? ⟨w5.heap.size, 0, none⟩ = some (.int .u8 1) := (hb7.cell (p := ⟨w5.heap.size, 0, none⟩) z6).trans q0
    have r1 : w7.cell? ⟨w5.heap.size, 1, none⟩ = some (.int .u64 r) := (hb7.cell (p := ⟨w5.heap.size, 1, none⟩) z6).trans q1
    have r2 : w7.cell? ⟨w5.heap.size, 2, none⟩ = some (.string { data := #[] }) := (hb7.cell (p := ⟨w5.heap.size, 2, none⟩) z6).trans q2
    have z7 : w5.heap.size < w7.heap.size := by have := hb7.size; omega
    clear hb7 q0 q1 q2 z6 M BF
    go_wp2
    go_quiet (fail)
    go_wp2
    go_ret
    exact ⟨rfl, below_drawn (HB7.out.alloc HB7.out.size _) _⟩

set_option maxHeartbeats 4000000 in
/-- No element. -/
theorem law_empty (F : Interp) (a : Option Addr) (c : Nat) (sel : Int) (s0 : 0 ≤ sel) (s1 : sel ≤ 65535) (w : World) (hF : F.answers w.tape) : Calls Ybaf.prog 4 #[.slice a 0 c, .int .u16 sel] w fun e w' => e = .returned (.bool true) ∧ Below w.heap.size w w' := by
  go_enter Ybaf.func4, Ybaf.ntmps4
  go_wp2_with fail
  refine (build_empty _ _ _).mono ?_
  rintro e w1 ⟨rfl, hb1⟩
  have HB1 : Hid (Below w.heap.size w w1) := hb1
  clear hb1
  go_wp2_with fail
  have hB1 : Below w.heap.size w (w1.alloc (.cells #[.int .u64 0, .int .u8 0, .float .f64 0, .float .f64 0, .int .u64 0, .int .u64 0, .int .u8 0, .int .u64 0, .string { data := #[] }, .int .u8 0, .int .u64 0, .string { data := #[] }] 33)) := HB1.out.alloc HB1.out.size _
  refine (build_empty _ _ (w1.alloc (.cells #[.int .u64 0, .int .u8 0, .float .f64 0, .float .f64 0, .int .u64 0, .int .u64 0, .int .u8 0, .int .u64 0, .string { data := #[] }, .int .u8 0, .int .u64 0, .string { data := #[] }] 33))).mono ?_
  rintro e w2 ⟨rfl, hb2⟩
  have HB2 : Hid (Below w.heap.size w w2) := hB1.trans (hb2.mono hB1.size)
  have HT2 : Hid (Twelve w2 w1.heap.size #[.int .u64 0, .int .u8 0, .float .f64 0, .float .f64 0, .int .u64 0, .int .u64 0, .int .u8 0, .int .u64 0, .string { data := #[] }, .int .u8 0, .int .u64 0, .string { data := #[] }]) := Twelve.of_below hb2 (by simp) (Twelve.new w1 _)
  have HZ2 : Hid (w1.heap.size < w2.heap.size) := by have := hb2.size; simp at this; exact (by omega : w1.heap.size < w2.heap.size)
  clear hB1 hb2
  go_wp2_with fail
  refine (merge_none _ _).mono ?_
  rintro e w4 ⟨rfl, h4⟩
  have hT : Twelve w4 w1.heap.size #[.int .u64 0, .int .u8 0, .float .f64 0, .float .f64 0, .int .u64 0, .int .u64 0, .int .u8 0, .int .u64 0, .string { data := #[] }, .int .u8 0, .int .u64 0, .string { data := #[] }] := fun j hj => by rw [h4, World.cell?_alloc_past _ _ _ (by have := HZ2.out; simp; omega), World.cell?_alloc_past _ _ _ HZ2.out]; exact HT2.out j hj
  have HB4 : Hid (Below w.heap.size w w4) := by rw [h4]; exact (HB2.out.alloc HB2.out.size _).alloc (by have := HB2.out.size; simp; omega) _
  clear h4 HB1 HB2 HT2 HZ2
  have s0 : w4.cell? ⟨w1.heap.size, 0, none⟩ = some (.int .u64 0) := hT 0 (by decide)
  have s1 : w4.cell? ⟨w1.heap.size, 1, none⟩ = some (.int .u8 0) := hT 1 (by decide)
  have s2 : w4.cell? ⟨w1.heap.size, 2, none⟩ = some (.float .f64 0) := hT 2 (by decide)
  have s3 : w4.cell? ⟨w1.heap.size, 3, none⟩ = some (.float .f64 0) := hT 3 (by decide)
  have s4 : w4.cell? ⟨w1.heap.size, 4, none⟩ = some (.int .u64 0) := hT 4 (by decide)
  have s5 : w4.cell? ⟨w1.heap.size, 5, none⟩ = some (.int .u64 0) := hT 5 (by decide)
  have s6 : w4.cell? ⟨w1.heap.size, 6, none⟩ = some (.int .u8 0) := hT 6 (by decide)
  have s7 : w4.cell? ⟨w1.heap.size, 7, none⟩ = some (.int .u64 0) := hT 7 (by decide)
  have s8 : w4.cell? ⟨w1.heap.size, 8, none⟩ = some (.string { data := #[] }) := hT 8 (by decide)
  have s9 : w4.cell? ⟨w1.heap.size, 9, none⟩ = some (.int .u8 0) := hT 9 (by decide)
  have s10 : w4.cell? ⟨w1.heap.size, 10, none⟩ = some (.int .u64 0) := hT 10 (by decide)
  have s11 : w4.cell? ⟨w1.heap.size, 11, none⟩ = some (.string { data := #[] }) := hT 11 (by decide)
  clear hT
  go_wp2_with fail
  refine (mean0 F _ (by rw [HB4.out.tape]; exact hF)).mono ?_
  rintro e w5 ⟨x1, rfl, hb5⟩
  have HB5 : Hid (Below w.heap.size w w5) := HB4.out.trans (hb5.mono HB4.out.size)
  clear hb5 s0 s1 s2 s3 s4 s5 s6 s7 s8 s9 s10 s11
  go_wp2_with fail
  have hB5 : Below w.heap.size w (w5.alloc (.cells #[.int .u8 0, .int .u64 0, .string { data := #[] }] 26)) := HB5.out.alloc HB5.out.size _
  refine (build_empty _ _ (w5.alloc (.cells #[.int .u8 0, .int .u64 0, .string { data := #[] }] 26))).mono ?_
  rintro e w6 ⟨rfl, hb6⟩
  have HB6 : Hid (Below w.heap.size w w6) := hB5.trans (hb6.mono hB5.size)
  have q0 : w6.cell? ⟨w5.heap.size, 0, none⟩ = some (.int .u8 0) := (hb6.cell (p := ⟨w5.heap.size, 0, none⟩) (by simp)).trans (by simp [go_sem])
  have q1 : w6.cell? ⟨w5.heap.size, 1, none⟩ = some (.int .u64 0) := (hb6.cell (p := ⟨w5.heap.size, 1, none⟩) (by simp)).trans (by simp [go_sem])
  have q2 : w6.cell? ⟨w5.heap.size, 2, none⟩ = some (.string { data := #[] }) := (hb6.cell (p := ⟨w5.heap.size, 2, none⟩) (by simp)).trans (by simp [go_sem])
  have z6 : w5.heap.size < w6.heap.size := by have := hb6.size; simp at this; omega
  clear hB5 hb6
  go_wp2_with fail
  refine (mean0 F _ (by rw [HB6.out.tape]; exact hF)).mono ?_
  rintro e w7 ⟨x2, rfl, hb7⟩
  have HB7 : Hid (Below w.heap.size w w7) := HB6.out.trans (hb7.mono HB6.out.size)
  have r0 : w7.cell? ⟨w5.heap.size, 0, none⟩ = some (.int .u8 0) := (hb7.cell (p := ⟨w5.heap.size, 0, none⟩) z6).trans q0
  have r1 : w7.cell? ⟨w5.heap.size, 1, none⟩ = some (.int .u64 0) := (hb7.cell (p := ⟨w5.heap.size, 1, none⟩) z6).trans q1
  have r2 : w7.cell? ⟨w5.heap.size, 2, none⟩ = some (.string { data := #[] }) := (hb7.cell (p := ⟨w5.heap.size, 2, none⟩) z6).trans q2
  have z7 : w5.heap.size < w7.heap.size := by have := hb7.size; omega
  clear hb7 q0 q1 q2 z6
  go_wp2
  go_quiet (fail)
  go_wp2
  go_ret
  exact ⟨rfl, below_drawn (HB7.out.alloc HB7.out.size _) _⟩

end Go.Proofs.YbulkamduFmt
