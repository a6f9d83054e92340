/-
  The told card of LawS1892CMerge: from the walk to 'ReturnsInTold', and the card by the builder.
-/
import Derived.Test.YbulkamduFmtCards
import Derived.Test.YbulkamduFmtLawMerge
import Derived.ProofKit
import Derived.ChangeSlices
import Derived.ChangeSame
import Derived.ChangeMaps5
import Derived.JoinedOf
import Derived.Carry
import Derived.OpenShut
import Derived.Stop.JoinedAt
import Derived.Stop.JoinedTold
import Derived.SizedLaws
import Derived.SevenToldRow
namespace Go.Proofs.YbulkamduFmt
open Go.ChangeShapes Go.WideShapes Go.ChangeAt Go.RowKit Go.Kit
open Go.Extern.Stop Go.Stop Go.Extern

theorem Ybaf.own : ownKnob Ybaf.prog.godebug = none := by kernel_rfl
theorem Ybaf.laidOut : laidOutB Ybaf.pinned.checked.prog = true := by kernel_rfl
theorem Ybaf.cells35 : Ybaf.prog.cellsOf 35 = 1 := by kernel_rfl
theorem Ybaf.stops : Ybaf.pinned.checked.prog.stops = Rows.lawS1892CMergeRow.stops := by kernel_rfl
theorem Ybaf.stopKnobs : Ybaf.pinned.checked.prog.stopKnobs = [] := by kernel_rfl
theorem Ybaf.quiet (os : Os) : Stop.quiet Ybaf.pinned.checked.prog os := by
  intro k hk
  rw [Ybaf.stopKnobs] at hk
  cases hk

set_option maxRecDepth 100000 in
theorem merge_lifted (os : Os) (started : os.Started) (H : Type) (enc : TypeId × Value → H) :
    ReturnsInTold none {} Ybaf.checked os 4 .any Input.okWide ((OpenSpec.ofChange Rows.lawS1892CMergeSpec).preRow enc Ybaf.prog Ybaf.f4 [] false []) (fun F => ((OpenSpec.ofChange Rows.lawS1892CMergeSpec).at F).post enc Ybaf.prog Ybaf.f4 false true false false) (aloneAtReturn Ybaf.prog) nothingAlways := by
  refine returnsInTold_of_row (C := Ybaf.checked) (s := OpenSpec.ofChange Rows.lawS1892CMergeSpec) (by kernel_rfl) Ybaf.own started (by kernel_rfl) Ybaf.func4
    (OpenSpec.witness_stopped (enc := enc) (C := Ybaf.checked) false ⟨#[], #[.slice none 0 0, .int .u16 0], []⟩ 8 (by kernel_rfl) (by kernel_rfl) (by kernel_rfl) (by kernel_rfl)) ?_
  intro F W base args ds gs before _ hF hval0 hW _ _ hsz _ _
  have hval : ∀ (j : Nat) t v, Ybaf.f4.params[j]? = some t → args[j]? = some v → Value.okWide Ybaf.prog W .any base t v := hval0
  have hW' := hW
  obtain ⟨p, q, hA0, hV, rfl, _, _⟩ := hW
  have hA : DataW.TrodAll enc Ybaf.prog W 0 (fun _ => true) true Ybaf.f4.params.toList args.toList ds p := hA0
  rw [Ybaf.params4] at hA hval
  obtain ⟨v0, v1, d0, d1, p0, p1, rfl, rfl, rfl, h0, h1⟩ := trodAll_two hA
  obtain ⟨rfl, rfl⟩ := trodVars_none hV
  obtain ⟨a0, len, cap, rfl⟩ := okWide_slice Ybaf.underlying22 (hval 0 22 v0 rfl rfl)
  obtain ⟨sel, rfl, rfl, rfl, wsel⟩ := open_int Ybaf.underlying38 (hval 1 38 v1 rfl rfl) h1
  have bsel := bounds_u16 wsel
  have h0k := h0
  obtain ⟨fuel, hf⟩ := h0
  clear hA0 hval0
  simp only [List.append_nil] at hW'
  have hlt : ∀ x ∈ p0, x.block < W.heap.size := fun x hx => by simpa using hW'.lt x hx
  have hargs : ∀ (W' : World), Below W.heap.size W W' → DataW.Trod enc Ybaf.prog W' 0 (fun b => decide (b < W.heap.size)) true 22 (.slice a0 len cap) d0 p0 :=
    fun W' hn => Below.trod Ybaf.laidOut (by kernel_rfl) (of_decide_eq_true (by kernel_rfl)) h0k hn hlt
  have fin : ∀ (e : Ending) (W' : World), (e = .returned (.bool true) ∧ Below W.heap.size W W') → ∃ v, e = .returned v ∧ ((OpenSpec.ofChange Rows.lawS1892CMergeSpec).at F.told).post enc Ybaf.prog Ybaf.f4 false true false false W #[.slice a0 len cap, .int .u16 sel] v W' := by
    rintro e W' ⟨rfl, hB⟩
    exact ⟨_, rfl, _, _, _, [], p0 ++ [], [], hW', trodAll_mk1 (shut_bool Ybaf.underlying4 _), trodAll_mk2 (hargs _ hB) (shut_int Ybaf.underlying38 wsel), rfl, hB.frame _, fun h => by cases h⟩
  by_cases hlong : 4096 < len
  · exact (law_long a0 len cap sel hlong W).mono fin
  by_cases hnone : len = 0
  · subst hnone
    exact (law_empty F.told a0 cap sel bsel.1 bsel.2 W hF).mono fin
  rcases open_ints Ybaf.underlying22 Ybaf.underlying35 Ybaf.cells35 hf with ⟨hcs, hx⟩ | ⟨a, len', cap', zs, hcs, _, hl, hm, hz, hx, hcell, hwz⟩
  · simp [Value.cells] at hcs
    exact absurd hcs.2.1 hnone
  · simp [Value.cells] at hcs
    obtain ⟨rfl, rfl, rfl⟩ := hcs
    simp only [if_true] at hz
    obtain ⟨bx, off, spot⟩ := a
    have hspot : spot = none := by simpa [Addr.add] using World.cell?_spot (hcell 0 (by omega))
    subst hspot
    have hcell' : ∀ j, j < len → W.cell? ⟨bx, off + j, none⟩ = some (.int .i8 (zs.getD j 0)) := fun j hj => by rw [← add_plain]; exact hcell j (by omega)
    have hbx : bx < W.heap.size := World.block_lt_of_cell? W ⟨bx, off + 0, none⟩ (hcell' 0 (by omega))
    have hr : ∀ j, -128 ≤ zs.getD j 0 ∧ zs.getD j 0 ≤ 127 := fun j => by simpa [List.getD] using range_i8 hwz j
    have hq0 : 0 ≤ sel % ((len : Int) + 1) := Int.emod_nonneg _ (by omega)
    have hq1 : sel % ((len : Int) + 1) < (len : Int) + 1 := Int.emod_lt_of_pos _ (by omega)
    by_cases hk0 : sel % ((len : Int) + 1) = 0
    · exact (law_first bx off len cap zs sel W bsel.1 bsel.2 hnone (by omega) (by omega) (by omega) hk0 hbx hcell' hr).mono fin
    by_cases hkn : sel % ((len : Int) + 1) = (len : Int)
    · exact (law_last bx off len cap zs sel W bsel.1 bsel.2 hnone (by omega) (by omega) (by omega) hkn hbx hcell' hr).mono fin
    obtain ⟨k, hk⟩ := Int.eq_ofNat_of_zero_le hq0
    obtain ⟨k', rfl⟩ : ∃ k', len = k + k' := ⟨len - k, by omega⟩
    rw [Int.natCast_add] at hk hk0 hkn hq1
    exact (law_mid bx off k k' cap zs sel W bsel.1 bsel.2 (by omega) (by omega) (by omega) (by omega) (by omega) hk hbx hcell' hr).mono fin

theorem lawS1892CMerge_told : Rows.LawS1892CMergeToldSaid :=
  Claim7.holds_of_told_any 4 Ybaf.f4 _ _ [] _ _ _ (by kernel_rfl) rfl rfl rfl Ybaf.laidOut (by kernel_rfl) rfl ⟨rfl, rfl, rfl, rfl, rfl, rfl, rfl⟩ rfl rfl (by kernel_rfl) (by kernel_rfl) Ybaf.func4 (by kernel_rfl)
    (of_decide_eq_true (by kernel_rfl)) (by unfold Func.isWrapper; first | (rw [if_pos (by decide +kernel)]; kernel_rfl) | (rw [if_neg (by decide +kernel)]; exact ⟨rfl, rfl⟩)) Ybaf.stops.symm rfl Ybaf.stopKnobs.symm (by kernel_rfl)
    (by kernel_rfl) (by kernel_rfl) (by kernel_rfl) (by kernel_rfl) (by kernel_rfl) (by kernel_rfl) (by kernel_rfl) (by kernel_rfl) (by kernel_rfl) rfl (by kernel_rfl) rfl rfl
    rfl rfl
    rfl (by kernel_rfl) (by kernel_rfl) (by kernel_rfl) (by decide) (by kernel_rfl)
    (OpenClaim.moreEntering_of (by kernel_rfl) (by kernel_rfl) (by kernel_rfl) (by kernel_rfl) (by kernel_rfl) (by kernel_rfl) (by kernel_rfl) (by kernel_rfl) (by kernel_rfl) (by kernel_rfl))
    ⟨_, WideRow.started_initial, Ybaf.quiet _⟩
    (fun os started _ H enc _ => merge_lifted os started H enc)
#print axioms lawS1892CMerge_told
end Go.Proofs.YbulkamduFmt
