/-
  No cell of these rows narrows 'for every input' (looked for: loops, veiled, ifaces, maps, wideKeys, modest, calm, conditions, laid).
  DERIVED. THE GIVEN ROWS OF THIS SEAT. 3 by the template 'for every input the law returns true; each argument reads behind the call as it read before'; 0 by the template 'total and deterministic' (their statements: YbulkcqeiTotals.lean).
  GIVEN WITH THE SEED: the statements are not yours to turn. If you find one false, say at which input.
  Laid BY PROGRAM, IN A SANDBOX (cutbox-rows.mjs): the forced cells as the released guide's own fill.sh prints them over the translation f698ee8522f3b07b… (all of the seat's roots in one cut). By AI agents, Wed Nov 11 2026. No macro, syntax, notation, axiom, sorry.
-/
import Derived.Test.YbulkcqeiChecked
import GoSem.Claim
import GoSem.ClaimJoined
import GoSem.ClaimMapViews
import Derived.JoinedTies
import Derived.KernelRfl
namespace Go.Proofs.Ybulkcqei
/- THE CELL 'sum', in the pinned program and in every row, IS THE sha256 OF THE DUMP (.gsa) THAT YbulkcqeiProg.lean LOADS. Nothing in Lean hashes anything: it is a label: what it is worth is what the hold of that sum in a sandbox is worth. -/
noncomputable def Yba.pinned : Pinned := { name := "ybulkcqei", sum := "f698ee8522f3b07b54ca03be230ed98f124c30f19494dc8afa056a1946e64d19", checked := Yba.checked }
namespace Rows
def none {H : Type} : Left H := { results := [], args := [] }

/-- 'meshscore.LawS4597ARoundedProduct': WHATEVER THE INPUT: true; the input reads as it did. -/
def lawS4597ARoundedProductSpec : ChangeSpec := { name := "lawS4597ARoundedProduct", fn := fun _ => fun
  | [d1, d2, d3, d4] => { results := [.lit (.bool true)], args := [d1, d2, d3, d4] }
  | _ => none }
def lawS4597ARoundedProductRow : OpenClaim := { program := "ybulkcqei", sum := "f698ee8522f3b07b54ca03be230ed98f124c30f19494dc8afa056a1946e64d19", func := "example.com/meshscore/meshscore.LawS4597ARoundedProduct", spec := "lawS4597ARoundedProduct", inPlace := ["math.Float64frombits", "math.FMA", "math.Float64bits"], apart := false }
def LawS4597ARoundedProductSaid : Prop := lawS4597ARoundedProductRow.holds Yba.pinned (OpenSpec.ofChange lawS4597ARoundedProductSpec)

/-- ITS FALSE NEIGHBOUR: 'it returns false'. Refute it at one input. -/
def lawS4597ARoundedProductWrong : ChangeSpec := { name := "lawS4597ARoundedProduct", fn := fun _ => fun
  | [d1, d2, d3, d4] => { results := [.lit (.bool false)], args := [d1, d2, d3, d4] }
  | _ => none }
def LawS4597ARoundedProductWrongFalsely : Prop := lawS4597ARoundedProductRow.holds Yba.pinned (OpenSpec.ofChange lawS4597ARoundedProductWrong)

/-- 'meshscore.LawS4597AExactSum': WHATEVER THE INPUT: true; the input reads as it did. -/
def lawS4597AExactSumSpec : ChangeSpec := { name := "lawS4597AExactSum", fn := fun _ => fun
  | [d1, d2, d3, d4] => { results := [.lit (.bool true)], args := [d1, d2, d3, d4] }
  | _ => none }
def lawS4597AExactSumRow : OpenClaim := { program := "ybulkcqei", sum := "f698ee8522f3b07b54ca03be230ed98f124c30f19494dc8afa056a1946e64d19", func := "example.com/meshscore/meshscore.LawS4597AExactSum", spec := "lawS4597AExactSum", inPlace := ["math.Float64bits", "math.Float64frombits", "math.FMA"], apart := false }
def LawS4597AExactSumSaid : Prop := lawS4597AExactSumRow.holds Yba.pinned (OpenSpec.ofChange lawS4597AExactSumSpec)

/-- ITS FALSE NEIGHBOUR: 'it returns false'. Refute it at one input. -/
def lawS4597AExactSumWrong : ChangeSpec := { name := "lawS4597AExactSum", fn := fun _ => fun
  | [d1, d2, d3, d4] => { results := [.lit (.bool false)], args := [d1, d2, d3, d4] }
  | _ => none }
def LawS4597AExactSumWrongFalsely : Prop := lawS4597AExactSumRow.holds Yba.pinned (OpenSpec.ofChange lawS4597AExactSumWrong)

/-- 'meshscore.LawS4597BGiven': WHATEVER THE INPUT: true; the input reads as it did. -/
def lawS4597BGivenSpec : ChangeSpec := { name := "lawS4597BGiven", fn := fun _ => fun
  | [d1, d2, d3] => { results := [.lit (.bool true)], args := [d1, d2, d3] }
  | _ => none }
def lawS4597BGivenRow : OpenClaim := { program := "ybulkcqei", sum := "f698ee8522f3b07b54ca03be230ed98f124c30f19494dc8afa056a1946e64d19", func := "example.com/meshscore/meshscore.LawS4597BGiven", spec := "lawS4597BGiven", apart := false }
def LawS4597BGivenSaid : Prop := lawS4597BGivenRow.holds Yba.pinned (OpenSpec.ofChange lawS4597BGivenSpec)

/-- ITS FALSE NEIGHBOUR: 'it returns false'. Refute it at one input. -/
def lawS4597BGivenWrong : ChangeSpec := { name := "lawS4597BGiven", fn := fun _ => fun
  | [d1, d2, d3] => { results := [.lit (.bool false)], args := [d1, d2, d3] }
  | _ => none }
def LawS4597BGivenWrongFalsely : Prop := lawS4597BGivenRow.holds Yba.pinned (OpenSpec.ofChange lawS4597BGivenWrong)

end Rows
end Go.Proofs.Ybulkcqei
