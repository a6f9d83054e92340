/-
  No cell of these rows narrows 'for every input' (looked for: loops, veiled, ifaces, maps, wideKeys, modest, calm, conditions, laid).
  DERIVED. THE GIVEN ROWS OF THIS SEAT. 2 by the template 'for every input the law returns true; each argument reads behind the call as it read before'; 0 by the template 'total and deterministic' (their statements: YbulkamduTotals.lean).
  GIVEN WITH THE SEED: the statements are not yours to turn. If you find one false, say at which input.
  Laid BY PROGRAM, IN A SANDBOX (cutbox-rows.mjs): the forced cells as the released guide's own fill.sh prints them over the translation 8caa08372980e696… (all of the seat's roots in one cut). By AI agents, Wed Nov 11 2026. No macro, syntax, notation, axiom, sorry.
-/
import Derived.Test.YbulkamduChecked
import GoSem.Claim
import GoSem.ClaimJoined
import GoSem.ClaimMapViews
import Derived.JoinedTies
import Derived.KernelRfl
namespace Go.Proofs.Ybulkamdu
/- THE CELL 'sum', in the pinned program and in every row, IS THE sha256 OF THE DUMP (.gsa) THAT YbulkamduProg.lean LOADS. Nothing in Lean hashes anything: it is a label: what it is worth is what the hold of that sum in a sandbox is worth. -/
noncomputable def Yba.pinned : Pinned := { name := "ybulkamdu", sum := "8caa08372980e696296ba2103ec93f997aa923d62890f08937669900cd7a1c50", checked := Yba.checked }
namespace Rows
def none {H : Type} : Left H := { results := [], args := [] }

/-- 'storage.LawS1892AExact': WHATEVER THE INPUT: true; the input reads as it did. -/
def lawS1892AExactSpec : ChangeSpec := { name := "lawS1892AExact", fn := fun _ => fun
  | [d] => { results := [.lit (.bool true)], args := [d] }
  | _ => none }
def lawS1892AExactRow : OpenClaim := { program := "ybulkamdu", sum := "8caa08372980e696296ba2103ec93f997aa923d62890f08937669900cd7a1c50", func := "example.com/chronostrata/chronostrata/internal/storage.LawS1892AExact", spec := "lawS1892AExact", apart := false }
def LawS1892AExactSaid : Prop := lawS1892AExactRow.holds Yba.pinned (OpenSpec.ofChange lawS1892AExactSpec)

/-- ITS FALSE NEIGHBOUR: 'it returns false'. Refute it at one input. -/
def lawS1892AExactWrong : ChangeSpec := { name := "lawS1892AExact", fn := fun _ => fun
  | [d] => { results := [.lit (.bool false)], args := [d] }
  | _ => none }
def LawS1892AExactWrongFalsely : Prop := lawS1892AExactRow.holds Yba.pinned (OpenSpec.ofChange lawS1892AExactWrong)

/-- 'storage.LawS1892AExtend': WHATEVER THE INPUT: true; the input reads as it did. -/
def lawS1892AExtendSpec : ChangeSpec := { name := "lawS1892AExtend", fn := fun _ => fun
  | [d1, d2] => { results := [.lit (.bool true)], args := [d1, d2] }
  | _ => none }
def lawS1892AExtendRow : OpenClaim := { program := "ybulkamdu", sum := "8caa08372980e696296ba2103ec93f997aa923d62890f08937669900cd7a1c50", func := "example.com/chronostrata/chronostrata/internal/storage.LawS1892AExtend", spec := "lawS1892AExtend", inPlace := ["math/bits.Add64"], apart := false }
def LawS1892AExtendSaid : Prop := lawS1892AExtendRow.holds Yba.pinned (OpenSpec.ofChange lawS1892AExtendSpec)

/-- ITS FALSE NEIGHBOUR: 'it returns false'. Refute it at one input. -/
def lawS1892AExtendWrong : ChangeSpec := { name := "lawS1892AExtend", fn := fun _ => fun
  | [d1, d2] => { results := [.lit (.bool false)], args := [d1, d2] }
  | _ => none }
def LawS1892AExtendWrongFalsely : Prop := lawS1892AExtendRow.holds Yba.pinned (OpenSpec.ofChange lawS1892AExtendWrong)

end Rows
end Go.Proofs.Ybulkamdu
