/-
  DERIVED. GIVEN WITH THE SEED: THE CARDS: each row of YbulkamduFmtRows.lean that lists a variable, with what it lists TIED to the program's text (the seventh form; the later family's looks); each row that meets fmt, with fmt's text TOLD by the authors' own Lean function (tested against real Go, not proved from fmt's source: count such statements apart). THE CARD IS WHAT COUNTS. Prove the row's statement (the work); the ties are given (YbulkamduFmtTie.lean); close each card by the builder's one call (the guide's Derived/Test/ToyasCard.lean, 'card_holds'). Laid BY PROGRAM, IN A SANDBOX (cutbox-door.mjs). By AI agents, Wed Nov 11 2026. No macro, syntax, notation, axiom, sorry.
-/
import Derived.Test.YbulkamduFmtRows
import GoSem.ClaimSeven
namespace Go.Proofs.YbulkamduFmt
namespace Rows

/-- THE TOLD CARD OF 'query.LawS1892CMean'. -/
def lawS1892CMeanCard : Claim7 := { stood := { row := lawS1892CMeanRow, standIns := [], harness := (true, "8b34243c1e063b01686c3e9743135665117391fe3f00f6044161cfcae6a320e5"), looks := false }, told := true, goes := false }
def LawS1892CMeanToldSaid : Prop := Claim7.holds Ybaf.pinned (.plain (OpenSpec.ofChange lawS1892CMeanSpec)) lawS1892CMeanCard
/-- ITS FALSE NEIGHBOUR. Refute it at one input. -/
def LawS1892CMeanToldWrongFalsely : Prop := Claim7.holds Ybaf.pinned (.plain (OpenSpec.ofChange lawS1892CMeanWrong)) lawS1892CMeanCard

/-- THE TOLD CARD OF 'query.LawS1892CMerge'. -/
def lawS1892CMergeCard : Claim7 := { stood := { row := lawS1892CMergeRow, standIns := [], harness := (true, "8b34243c1e063b01686c3e9743135665117391fe3f00f6044161cfcae6a320e5"), looks := false }, told := true, goes := false }
def LawS1892CMergeToldSaid : Prop := Claim7.holds Ybaf.pinned (.plain (OpenSpec.ofChange lawS1892CMergeSpec)) lawS1892CMergeCard
/-- ITS FALSE NEIGHBOUR. Refute it at one input. -/
def LawS1892CMergeToldWrongFalsely : Prop := Claim7.holds Ybaf.pinned (.plain (OpenSpec.ofChange lawS1892CMergeWrong)) lawS1892CMergeCard
end Rows
end Go.Proofs.YbulkamduFmt
