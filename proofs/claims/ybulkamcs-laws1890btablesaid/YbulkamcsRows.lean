/-
  No cell of these rows narrows 'for every input' (looked for: loops, veiled, ifaces, maps, wideKeys, modest, calm, conditions, laid).
  DERIVED. THE GIVEN ROWS OF THIS SEAT. 2 by the template 'for every input the law returns true; each argument reads behind the call as it read before'; 0 by the template 'total and deterministic' (their statements: YbulkamcsTotals.lean).
  GIVEN WITH THE SEED: the statements are not yours to turn. If you find one false, say at which input.
  Laid BY PROGRAM, IN A SANDBOX (cutbox-rows.mjs): the forced cells as the released guide's own fill.sh prints them over the translation 3c6b1f2c31aeb316… (all of the seat's roots in one cut). By AI agents, Wed Nov 11 2026. No macro, syntax, notation, axiom, sorry.
-/
import Derived.Test.YbulkamcsChecked
import GoSem.Claim
import GoSem.ClaimJoined
import GoSem.ClaimMapViews
import Derived.JoinedTies
import Derived.KernelRfl
namespace Go.Proofs.Ybulkamcs
/- THE CELL 'sum', in the pinned program and in every row, IS THE sha256 OF THE DUMP (.gsa) THAT YbulkamcsProg.lean LOADS. Nothing in Lean hashes anything: it is a label: what it is worth is what the hold of that sum in a sandbox is worth. -/
noncomputable def Yba.pinned : Pinned := { name := "ybulkamcs", sum := "3c6b1f2c31aeb316b4d7f02f5d2f6eb52b1435f80f7feaa40c2f26989d93df71", checked := Yba.checked }
namespace Rows
def none {H : Type} : Left H := { results := [], args := [] }

/-- 'github.LawS1890BTable': WHATEVER THE INPUT: true; the input reads as it did. -/
def lawS1890BTableSpec : ChangeSpec := { name := "lawS1890BTable", fn := fun _ => fun
  | [d] => { results := [.lit (.bool true)], args := [d] }
  | _ => none }
def lawS1890BTableRow : OpenClaim := { program := "ybulkamcs", sum := "3c6b1f2c31aeb316b4d7f02f5d2f6eb52b1435f80f7feaa40c2f26989d93df71", func := "example.com/roundtrip/roundtrip/internal/github.LawS1890BTable", spec := "lawS1890BTable", apart := false }
def LawS1890BTableSaid : Prop := lawS1890BTableRow.holds Yba.pinned (OpenSpec.ofChange lawS1890BTableSpec)

/-- ITS FALSE NEIGHBOUR: 'it returns false'. Refute it at one input. -/
def lawS1890BTableWrong : ChangeSpec := { name := "lawS1890BTable", fn := fun _ => fun
  | [d] => { results := [.lit (.bool false)], args := [d] }
  | _ => none }
def LawS1890BTableWrongFalsely : Prop := lawS1890BTableRow.holds Yba.pinned (OpenSpec.ofChange lawS1890BTableWrong)

/-- 'github.LawS1890BKnown': WHATEVER THE INPUT: true; the input reads as it did. -/
def lawS1890BKnownSpec : ChangeSpec := { name := "lawS1890BKnown", fn := fun _ => fun
  | [d] => { results := [.lit (.bool true)], args := [d] }
  | _ => none }
def lawS1890BKnownRow : OpenClaim := { program := "ybulkamcs", sum := "3c6b1f2c31aeb316b4d7f02f5d2f6eb52b1435f80f7feaa40c2f26989d93df71", func := "example.com/roundtrip/roundtrip/internal/github.LawS1890BKnown", spec := "lawS1890BKnown", apart := false }
def LawS1890BKnownSaid : Prop := lawS1890BKnownRow.holds Yba.pinned (OpenSpec.ofChange lawS1890BKnownSpec)

/-- ITS FALSE NEIGHBOUR: 'it returns false'. Refute it at one input. -/
def lawS1890BKnownWrong : ChangeSpec := { name := "lawS1890BKnown", fn := fun _ => fun
  | [d] => { results := [.lit (.bool false)], args := [d] }
  | _ => none }
def LawS1890BKnownWrongFalsely : Prop := lawS1890BKnownRow.holds Yba.pinned (OpenSpec.ofChange lawS1890BKnownWrong)

end Rows
end Go.Proofs.Ybulkamcs
