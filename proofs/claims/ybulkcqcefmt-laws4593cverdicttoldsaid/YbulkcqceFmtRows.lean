/-
  NARROWER THAN 'FOR EVERY INPUT', by the rows' own cells (each row's printed sentence says how): LawS4593CVerdict: ifaces, laid.
  DERIVED. THE GIVEN ROWS OF THIS SEAT. 1 by the template 'for every input the law returns true; each argument reads behind the call as it read before'; 0 by the template 'total and deterministic' (their statements: YbulkcqceFmtTotals.lean).
  GIVEN WITH THE SEED: the statements are not yours to turn. If you find one false, say at which input.
  Laid BY PROGRAM, IN A SANDBOX (cutbox-rows.mjs): the forced cells as the released guide's own fill.sh prints them over the translation 042fea60e75f2cbd… (all of the seat's roots in one cut). By AI agents, Wed Nov 11 2026. No macro, syntax, notation, axiom, sorry.
-/
import Derived.Test.YbulkcqceFmtChecked
import GoSem.Claim
import GoSem.ClaimJoined
import GoSem.ClaimMapViews
import Derived.JoinedTies
import Derived.KernelRfl
namespace Go.Proofs.YbulkcqceFmt
/- THE CELL 'sum', in the pinned program and in every row, IS THE sha256 OF THE DUMP (.gsa) THAT YbulkcqceFmtProg.lean LOADS. Nothing in Lean hashes anything: it is a label: what it is worth is what the hold of that sum in a sandbox is worth. -/
noncomputable def Ybaf.pinned : Pinned := { name := "ybulkcqcefmt", sum := "042fea60e75f2cbd0e13725f829436424449e2b383715dc72a0bc1b3d3d1c4d4", checked := Ybaf.checked }
namespace Rows
def none {H : Type} : Left H := { results := [], args := [] }

/- WHAT THE LISTED PACKAGE-LEVEL VARIABLES READ AS WHEN THE CALL BEGINS. Each datum BY PROGRAM (the guide's laid-datum.mjs) off the statement by which the dump's own 'gosem.cut.vars' lays the variable. In a bare row this is a premise. The card (YbulkcqceFmtCards.lean) ties it to the program's text. -/
def laid_amalgam_example_amalgam_session_ErrImplausible {H : Type} : DataW H := .iface "*errors.errorString" (.ptr (.agg [.lit (.string [105, 109, 112, 108, 97, 117, 115, 105, 98, 108, 101])]))
def laid_amalgam_example_amalgam_session_ErrTooManyElements {H : Type} : DataW H := .iface "*errors.errorString" (.ptr (.agg [.lit (.string [116, 111, 111, 32, 109, 97, 110, 121, 32, 101, 108, 101, 109, 101, 110, 116, 115])]))

/-- 'session.LawS4593CVerdict': WHATEVER THE INPUT: true; the input reads as it did. -/
def lawS4593CVerdictSpec : ChangeSpec := { name := "lawS4593CVerdict", vars := ["amalgam.example/amalgam/session.ErrImplausible", "amalgam.example/amalgam/session.ErrTooManyElements"], fn := fun _ => fun
  | [d1, d2, d3, d4, g1, g2] => { results := [.lit (.bool true)], args := [d1, d2, d3, d4], vars := [g1, g2] }
  | _ => none }
def lawS4593CVerdictRow : OpenClaim := { program := "ybulkcqcefmt", sum := "042fea60e75f2cbd0e13725f829436424449e2b383715dc72a0bc1b3d3d1c4d4", func := "amalgam.example/amalgam/session.LawS4593CVerdict", spec := "lawS4593CVerdict", stops := ["fmt.errorf"], inPlace := ["fmt.errorf", "internal/reflectlite.TypeOf"], unfollowed := true, recurses := true, named := ["amalgam.example/amalgam/session.ErrImplausible", "amalgam.example/amalgam/session.ErrTooManyElements"], ifaces := true, plainKeys := false, apart := false, laid := [("amalgam.example/amalgam/session.ErrImplausible", laid_amalgam_example_amalgam_session_ErrImplausible), ("amalgam.example/amalgam/session.ErrTooManyElements", laid_amalgam_example_amalgam_session_ErrTooManyElements)] }
/-- NO THEOREM (fmt's text is open here; it may be false): for the released tool's asking of the row's closed facts alone. THE STATEMENT IS 'LawS4593CVerdictToldSaid' (YbulkcqceFmtCards.lean). -/
def LawS4593CVerdictFormAsk : Prop := lawS4593CVerdictRow.holds Ybaf.pinned (OpenSpec.ofChange lawS4593CVerdictSpec)

/-- ITS FALSE NEIGHBOUR: 'it returns false'. Refute it at one input. -/
def lawS4593CVerdictWrong : ChangeSpec := { name := "lawS4593CVerdict", vars := ["amalgam.example/amalgam/session.ErrImplausible", "amalgam.example/amalgam/session.ErrTooManyElements"], fn := fun _ => fun
  | [d1, d2, d3, d4, g1, g2] => { results := [.lit (.bool false)], args := [d1, d2, d3, d4], vars := [g1, g2] }
  | _ => none }
def LawS4593CVerdictWrongFormAsk : Prop := lawS4593CVerdictRow.holds Ybaf.pinned (OpenSpec.ofChange lawS4593CVerdictWrong)

end Rows
end Go.Proofs.YbulkcqceFmt
