/-
  The rows of LawS1889BLimbs and LawS1889BAliasCommute proved out of the walks (YbulkamceWalks.lean). Two arrays of eight uint64 come in by value.
-/
import Derived.Test.YbulkamceWalks
import Derived.ProofKit
import Derived.OpenShut
namespace Go.Proofs.Ybulkamce
open Go.ChangeShapes Go.WideShapes Go.ChangeAt Go.RowKit

theorem Yba.own : ownKnob Yba.prog.godebug = none := by kernel_rfl
theorem Yba.cells23 : Yba.prog.cellsOf 23 = 8 := by kernel_rfl

theorem list8 {α : Type} (l : List α) (h : l.length = 8) : ∃ c0 c1 c2 c3 c4 c5 c6 c7, l = [c0, c1, c2, c3, c4, c5, c6, c7] := by
  match l, h with
  | [c0, c1, c2, c3, c4, c5, c6, c7], _ => exact ⟨c0, c1, c2, c3, c4, c5, c6, c7, rfl⟩

/-- An array of eight uint64, opened. -/
theorem open_arr8 {H : Type} {enc : TypeId × Value → H} {W : World} {base base' : Nat} {spare : Nat → Bool} {held : Bool} {r : Reach} {v : Value} {d : DataW H} {p : List MemPlace}
    (hv : Value.okWide Yba.prog W r base' 23 v) (h : DataW.Trod enc Yba.prog W base spare held 23 v d p) :
    ∃ x0 x1 x2 x3 x4 x5 x6 x7 : Int, v = .agg #[.int .u64 x0, .int .u64 x1, .int .u64 x2, .int .u64 x3, .int .u64 x4, .int .u64 x5, .int .u64 x6, .int .u64 x7] ∧ d = .agg [.lit (.int .u64 x0), .lit (.int .u64 x1), .lit (.int .u64 x2), .lit (.int .u64 x3), .lit (.int .u64 x4), .lit (.int .u64 x5), .lit (.int .u64 x6), .lit (.int .u64 x7)] ∧ p = [] ∧
      ((Lit.int .u64 x0).wf = true ∧ (Lit.int .u64 x1).wf = true ∧ (Lit.int .u64 x2).wf = true ∧ (Lit.int .u64 x3).wf = true ∧ (Lit.int .u64 x4).wf = true ∧ (Lit.int .u64 x5).wf = true ∧ (Lit.int .u64 x6).wf = true ∧ (Lit.int .u64 x7).wf = true) := by
  obtain ⟨cs, rfl, hsz, _⟩ : ∃ cs, v = .agg cs ∧ cs.size = Yba.prog.cellsOf 23 ∧ Row.okWide Yba.prog W r base' 23 cs := by
    simpa [Value.okWide, Yba.underlying23] using hv
  rw [Yba.cells23] at hsz
  obtain ⟨l⟩ := cs
  obtain ⟨c0, c1, c2, c3, c4, c5, c6, c7, rfl⟩ := list8 l (by simpa using hsz)
  obtain ⟨fuel, hf⟩ := h
  obtain ⟨xs, m, _, hx, _, hn, hel⟩ := DataW.trod_array Yba.underlying23 hf
  obtain ⟨y0, y1, y2, y3, y4, y5, y6, y7, rfl⟩ := list8 xs hn
  simp only [Yba.cells22] at hel
  obtain ⟨x0, e0, rfl, w0⟩ := DataW.trod_int Yba.underlying22 (show DataW.trod enc Yba.prog W base spare held m 22 [c0] = some y0 from hel 0 (by decide))
  obtain ⟨x1, e1, rfl, w1⟩ := DataW.trod_int Yba.underlying22 (show DataW.trod enc Yba.prog W base spare held m 22 [c1] = some y1 from hel 1 (by decide))
  obtain ⟨x2, e2, rfl, w2⟩ := DataW.trod_int Yba.underlying22 (show DataW.trod enc Yba.prog W base spare held m 22 [c2] = some y2 from hel 2 (by decide))
  obtain ⟨x3, e3, rfl, w3⟩ := DataW.trod_int Yba.underlying22 (show DataW.trod enc Yba.prog W base spare held m 22 [c3] = some y3 from hel 3 (by decide))
  obtain ⟨x4, e4, rfl, w4⟩ := DataW.trod_int Yba.underlying22 (show DataW.trod enc Yba.prog W base spare held m 22 [c4] = some y4 from hel 4 (by decide))
  obtain ⟨x5, e5, rfl, w5⟩ := DataW.trod_int Yba.underlying22 (show DataW.trod enc Yba.prog W base spare held m 22 [c5] = some y5 from hel 5 (by decide))
  obtain ⟨x6, e6, rfl, w6⟩ := DataW.trod_int Yba.underlying22 (show DataW.trod enc Yba.prog W base spare held m 22 [c6] = some y6 from hel 6 (by decide))
  obtain ⟨x7, e7, rfl, w7⟩ := DataW.trod_int Yba.underlying22 (show DataW.trod enc Yba.prog W base spare held m 22 [c7] = some y7 from hel 7 (by decide))
  simp at e0 e1 e2 e3 e4 e5 e6 e7
  subst e0 e1 e2 e3 e4 e5 e6 e7
  simp only [Prod.mk.injEq] at hx
  obtain ⟨rfl, rfl⟩ := hx
  exact ⟨x0, x1, x2, x3, x4, x5, x6, x7, rfl, rfl, rfl, w0, w1, w2, w3, w4, w5, w6, w7⟩

/-- ..and shut. -/
theorem shut_arr8 {H : Type} {enc : TypeId × Value → H} {W : World} {base : Nat} {spare : Nat → Bool} {held : Bool} {x0 x1 x2 x3 x4 x5 x6 x7 : Int}
    (h : (Lit.int .u64 x0).wf = true ∧ (Lit.int .u64 x1).wf = true ∧ (Lit.int .u64 x2).wf = true ∧ (Lit.int .u64 x3).wf = true ∧ (Lit.int .u64 x4).wf = true ∧ (Lit.int .u64 x5).wf = true ∧ (Lit.int .u64 x6).wf = true ∧ (Lit.int .u64 x7).wf = true) :
    DataW.Trod enc Yba.prog W base spare held 23 (.agg #[.int .u64 x0, .int .u64 x1, .int .u64 x2, .int .u64 x3, .int .u64 x4, .int .u64 x5, .int .u64 x6, .int .u64 x7]) (.agg [.lit (.int .u64 x0), .lit (.int .u64 x1), .lit (.int .u64 x2), .lit (.int .u64 x3), .lit (.int .u64 x4), .lit (.int .u64 x5), .lit (.int .u64 x6), .lit (.int .u64 x7)]) [] := by
  obtain ⟨w0, w1, w2, w3, w4, w5, w6, w7⟩ := h
  exact ⟨2, by simp [DataW.trod, Value.cells, Yba.underlying23, Yba.underlying22, Yba.cells23, Yba.cells22, w0, w1, w2, w3, w4, w5, w6, w7, show List.range 8 = [0, 1, 2, 3, 4, 5, 6, 7] from rfl]⟩
end Go.Proofs.Ybulkamce
