/-
  No cell of these rows narrows 'for every input' (looked for: loops, veiled, ifaces, maps, wideKeys, modest, calm, conditions, laid).
  DERIVED. THE GIVEN ROWS OF THIS SEAT. 2 by the template 'for every input the law returns true; each argument reads behind the call as it read before'; 0 by the template 'total and deterministic' (their statements: YbulkamduFmtTotals.lean).
  GIVEN WITH THE SEED: the statements are not yours to turn. If you find one false, say at which input.
  Laid BY PROGRAM, IN A SANDBOX (cutbox-rows.mjs): the forced cells as the released guide's own fill.sh prints them over the translation e52ba88736eda707… (all of the seat's roots in one cut). By AI agents, Wed Nov 11 2026. No macro, syntax, notation, axiom, sorry.
-/
import Derived.Test.YbulkamduFmtChecked
import GoSem.Claim
import GoSem.ClaimJoined
import GoSem.ClaimMapViews
import Derived.JoinedTies
import Derived.KernelRfl
namespace Go.Proofs.YbulkamduFmt
/- THE CELL 'sum', in the pinned program and in every row, IS THE sha256 OF THE DUMP (.gsa) THAT YbulkamduFmtProg.lean LOADS. Nothing in Lean hashes anything: it is a label: what it is worth is what the hold of that sum in a sandbox is worth. -/
noncomputable def Ybaf.pinned : Pinned := { name := "ybulkamdufmt", sum := "e52ba88736eda70757feaa9c3fa421b7d9c47762d6e000c56237aae65e217e13", checked := Ybaf.checked }
namespace Rows
def none {H : Type} : Left H := { results := [], args := [] }

/-- 'query.LawS1892CMean': WHATEVER THE INPUT: true; the input reads as it did. -/
def lawS1892CMeanSpec : ChangeSpec := { name := "lawS1892CMean", fn := fun _ => fun
  | [d] => { results := [.lit (.bool true)], args := [d] }
  | _ => none }
def lawS1892CMeanRow : OpenClaim := { program := "ybulkamdufmt", sum := "e52ba88736eda70757feaa9c3fa421b7d9c47762d6e000c56237aae65e217e13", func := "example.com/chronostrata/chronostrata/internal/query.LawS1892CMean", spec := "lawS1892CMean", stops := ["fmt.errorf, its operands' methods called"], inPlace := ["math.Float64bits", "math.Float64frombits", "math/bits.Add64", "internal/bytealg.abigen_runtime_cmpstring", "fmt.errorf", "math/bits.Sub64"], unfollowed := true, recurses := true, apart := false }
/-- NO THEOREM (fmt's text is open here; it may be false): for the released tool's asking of the row's closed facts alone. THE STATEMENT IS 'LawS1892CMeanToldSaid' (YbulkamduFmtCards.lean). -/
def LawS1892CMeanFormAsk : Prop := lawS1892CMeanRow.holds Ybaf.pinned (OpenSpec.ofChange lawS1892CMeanSpec)

/-- ITS FALSE NEIGHBOUR: 'it returns false'. Refute it at one input. -/
def lawS1892CMeanWrong : ChangeSpec := { name := "lawS1892CMean", fn := fun _ => fun
  | [d] => { results := [.lit (.bool false)], args := [d] }
  | _ => none }
def LawS1892CMeanWrongFormAsk : Prop := lawS1892CMeanRow.holds Ybaf.pinned (OpenSpec.ofChange lawS1892CMeanWrong)

/-- 'query.LawS1892CMerge': WHATEVER THE INPUT: true; the input reads as it did. -/
def lawS1892CMergeSpec : ChangeSpec := { name := "lawS1892CMerge", fn := fun _ => fun
  | [d1, d2] => { results := [.lit (.bool true)], args := [d1, d2] }
  | _ => none }
def lawS1892CMergeRow : OpenClaim := { program := "ybulkamdufmt", sum := "e52ba88736eda70757feaa9c3fa421b7d9c47762d6e000c56237aae65e217e13", func := "example.com/chronostrata/chronostrata/internal/query.LawS1892CMerge", spec := "lawS1892CMerge", stops := ["fmt.errorf, its operands' methods called"], inPlace := ["math.Float64bits", "math.Float64frombits", "math/bits.Add64", "internal/bytealg.abigen_runtime_cmpstring", "fmt.errorf", "math/bits.Sub64"], unfollowed := true, recurses := true, apart := false }
/-- NO THEOREM (fmt's text is open here; it may be false): for the released tool's asking of the row's closed facts alone. THE STATEMENT IS 'LawS1892CMergeToldSaid' (YbulkamduFmtCards.lean). -/
def LawS1892CMergeFormAsk : Prop := lawS1892CMergeRow.holds Ybaf.pinned (OpenSpec.ofChange lawS1892CMergeSpec)

/-- ITS FALSE NEIGHBOUR: 'it returns false'. Refute it at one input. -/
def lawS1892CMergeWrong : ChangeSpec := { name := "lawS1892CMerge", fn := fun _ => fun
  | [d1, d2] => { results := [.lit (.bool false)], args := [d1, d2] }
  | _ => none }
def LawS1892CMergeWrongFormAsk : Prop := lawS1892CMergeRow.holds Ybaf.pinned (OpenSpec.ofChange lawS1892CMergeWrong)

end Rows
end Go.Proofs.YbulkamduFmt
