/-
  No cell of these rows narrows 'for every input' (looked for: loops, veiled, ifaces, maps, wideKeys, modest, calm, conditions, laid).
  DERIVED. THE GIVEN ROWS OF THIS SEAT. 2 by the template 'for every input the law returns true; each argument reads behind the call as it read before'; 0 by the template 'total and deterministic' (their statements: YbulkamceTotals.lean).
  GIVEN WITH THE SEED: the statements are not yours to turn. If you find one false, say at which input.
  Laid BY PROGRAM, IN A SANDBOX (cutbox-rows.mjs): the forced cells as the released guide's own fill.sh prints them over the translation 37c74e074d1a0783… (all of the seat's roots in one cut). By AI agents, Wed Nov 11 2026. No macro, syntax, notation, axiom, sorry.
-/
import Derived.Test.YbulkamceChecked
import GoSem.Claim
import GoSem.ClaimJoined
import GoSem.ClaimMapViews
import Derived.JoinedTies
import Derived.KernelRfl
namespace Go.Proofs.Ybulkamce
/- THE CELL 'sum', in the pinned program and in every row, IS THE sha256 OF THE DUMP (.gsa) THAT YbulkamceProg.lean LOADS. Nothing in Lean hashes anything: it is a label: what it is worth is what the hold of that sum in a sandbox is worth. -/
noncomputable def Yba.pinned : Pinned := { name := "ybulkamce", sum := "37c74e074d1a07834c7126badf4f6e4253138faf25ba6871fcaf461c47d5c15f", checked := Yba.checked }
namespace Rows
def none {H : Type} : Left H := { results := [], args := [] }

/-- 'x448.LawS1889BLimbs': WHATEVER THE INPUT: true; the input reads as it did. -/
def lawS1889BLimbsSpec : ChangeSpec := { name := "lawS1889BLimbs", fn := fun _ => fun
  | [d1, d2] => { results := [.lit (.bool true)], args := [d1, d2] }
  | _ => none }
def lawS1889BLimbsRow : OpenClaim := { program := "ybulkamce", sum := "37c74e074d1a07834c7126badf4f6e4253138faf25ba6871fcaf461c47d5c15f", func := "example.com/kexforge/kexforge/internal/x448.LawS1889BLimbs", spec := "lawS1889BLimbs", apart := false }
def LawS1889BLimbsSaid : Prop := lawS1889BLimbsRow.holds Yba.pinned (OpenSpec.ofChange lawS1889BLimbsSpec)

/-- ITS FALSE NEIGHBOUR: 'it returns false'. Refute it at one input. -/
def lawS1889BLimbsWrong : ChangeSpec := { name := "lawS1889BLimbs", fn := fun _ => fun
  | [d1, d2] => { results := [.lit (.bool false)], args := [d1, d2] }
  | _ => none }
def LawS1889BLimbsWrongFalsely : Prop := lawS1889BLimbsRow.holds Yba.pinned (OpenSpec.ofChange lawS1889BLimbsWrong)

/-- 'x448.LawS1889BAliasCommute': WHATEVER THE INPUT: true; the input reads as it did. -/
def lawS1889BAliasCommuteSpec : ChangeSpec := { name := "lawS1889BAliasCommute", fn := fun _ => fun
  | [d1, d2] => { results := [.lit (.bool true)], args := [d1, d2] }
  | _ => none }
def lawS1889BAliasCommuteRow : OpenClaim := { program := "ybulkamce", sum := "37c74e074d1a07834c7126badf4f6e4253138faf25ba6871fcaf461c47d5c15f", func := "example.com/kexforge/kexforge/internal/x448.LawS1889BAliasCommute", spec := "lawS1889BAliasCommute", apart := false }
def LawS1889BAliasCommuteSaid : Prop := lawS1889BAliasCommuteRow.holds Yba.pinned (OpenSpec.ofChange lawS1889BAliasCommuteSpec)

/-- ITS FALSE NEIGHBOUR: 'it returns false'. Refute it at one input. -/
def lawS1889BAliasCommuteWrong : ChangeSpec := { name := "lawS1889BAliasCommute", fn := fun _ => fun
  | [d1, d2] => { results := [.lit (.bool false)], args := [d1, d2] }
  | _ => none }
def LawS1889BAliasCommuteWrongFalsely : Prop := lawS1889BAliasCommuteRow.holds Yba.pinned (OpenSpec.ofChange lawS1889BAliasCommuteWrong)

end Rows
end Go.Proofs.Ybulkamce
