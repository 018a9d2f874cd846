/-
  No cell of these rows narrows 'for every input' (looked for: loops, veiled, ifaces, maps, wideKeys, modest, calm, conditions, laid).
  DERIVED. THE GIVEN ROWS OF THIS SEAT. 2 by the template 'for every input the law returns true; each argument reads behind the call as it read before'; 0 by the template 'total and deterministic' (their statements: YbulkcqceTotals.lean).
  GIVEN WITH THE SEED: the statements are not yours to turn. If you find one false, say at which input.
  Laid BY PROGRAM, IN A SANDBOX (cutbox-rows.mjs): the forced cells as the released guide's own fill.sh prints them over the translation 4bd82b4d04d49bb2… (all of the seat's roots in one cut). By AI agents, Wed Nov 11 2026. No macro, syntax, notation, axiom, sorry.
-/
import Derived.Test.YbulkcqceChecked
import GoSem.Claim
import GoSem.ClaimJoined
import GoSem.ClaimMapViews
import Derived.JoinedTies
import Derived.KernelRfl
namespace Go.Proofs.Ybulkcqce
/- THE CELL 'sum', in the pinned program and in every row, IS THE sha256 OF THE DUMP (.gsa) THAT YbulkcqceProg.lean LOADS. Nothing in Lean hashes anything: it is a label: what it is worth is what the hold of that sum in a sandbox is worth. -/
noncomputable def Yba.pinned : Pinned := { name := "ybulkcqce", sum := "4bd82b4d04d49bb2230063b37729e97e7d352e9c395b9b2bb61158e91cc7135c", checked := Yba.checked }
namespace Rows
def none {H : Type} : Left H := { results := [], args := [] }

/-- 'ibf.LawS4593AModel': WHATEVER THE INPUT: true; the input reads as it did. -/
def lawS4593AModelSpec : ChangeSpec := { name := "lawS4593AModel", fn := fun _ => fun
  | [d1, d2, d3, d4, d5] => { results := [.lit (.bool true)], args := [d1, d2, d3, d4, d5] }
  | _ => none }
def lawS4593AModelRow : OpenClaim := { program := "ybulkcqce", sum := "4bd82b4d04d49bb2230063b37729e97e7d352e9c395b9b2bb61158e91cc7135c", func := "amalgam.example/amalgam/ibf.LawS4593AModel", spec := "lawS4593AModel", apart := false }
def LawS4593AModelSaid : Prop := lawS4593AModelRow.holds Yba.pinned (OpenSpec.ofChange lawS4593AModelSpec)

/-- ITS FALSE NEIGHBOUR: 'it returns false'. Refute it at one input. -/
def lawS4593AModelWrong : ChangeSpec := { name := "lawS4593AModel", fn := fun _ => fun
  | [d1, d2, d3, d4, d5] => { results := [.lit (.bool false)], args := [d1, d2, d3, d4, d5] }
  | _ => none }
def LawS4593AModelWrongFalsely : Prop := lawS4593AModelRow.holds Yba.pinned (OpenSpec.ofChange lawS4593AModelWrong)

/-- 'ibf.LawS4593AKeeps': WHATEVER THE INPUT: true; the input reads as it did. -/
def lawS4593AKeepsSpec : ChangeSpec := { name := "lawS4593AKeeps", fn := fun _ => fun
  | [d1, d2, d3, d4, d5] => { results := [.lit (.bool true)], args := [d1, d2, d3, d4, d5] }
  | _ => none }
def lawS4593AKeepsRow : OpenClaim := { program := "ybulkcqce", sum := "4bd82b4d04d49bb2230063b37729e97e7d352e9c395b9b2bb61158e91cc7135c", func := "amalgam.example/amalgam/ibf.LawS4593AKeeps", spec := "lawS4593AKeeps", apart := false }
def LawS4593AKeepsSaid : Prop := lawS4593AKeepsRow.holds Yba.pinned (OpenSpec.ofChange lawS4593AKeepsSpec)

/-- ITS FALSE NEIGHBOUR: 'it returns false'. Refute it at one input. -/
def lawS4593AKeepsWrong : ChangeSpec := { name := "lawS4593AKeeps", fn := fun _ => fun
  | [d1, d2, d3, d4, d5] => { results := [.lit (.bool false)], args := [d1, d2, d3, d4, d5] }
  | _ => none }
def LawS4593AKeepsWrongFalsely : Prop := lawS4593AKeepsRow.holds Yba.pinned (OpenSpec.ofChange lawS4593AKeepsWrong)

end Rows
end Go.Proofs.Ybulkcqce
