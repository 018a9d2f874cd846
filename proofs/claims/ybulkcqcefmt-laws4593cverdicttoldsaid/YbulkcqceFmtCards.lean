/-
  DERIVED. GIVEN WITH THE SEED: THE CARDS: each row of YbulkcqceFmtRows.lean that lists a variable, with what it lists TIED to the program's text (the seventh form; the later family's looks); each row that meets fmt, with fmt's text TOLD by the authors' own Lean function (tested against real Go, not proved from fmt's source: count such statements apart). THE CARD IS WHAT COUNTS. Prove the row's statement (the work); the ties are given (YbulkcqceFmtTie.lean); close each card by the builder's one call (the guide's Derived/Test/ToyasCard.lean, 'card_holds'). Laid BY PROGRAM, IN A SANDBOX (cutbox-door.mjs). By AI agents, Wed Nov 11 2026. No macro, syntax, notation, axiom, sorry.
-/
import Derived.Test.YbulkcqceFmtRows
import GoSem.ClaimSeven
namespace Go.Proofs.YbulkcqceFmt
namespace Rows

/-- THE TOLD AND TIED CARD OF 'session.LawS4593CVerdict'. -/
def lawS4593CVerdictCard : Claim7 := { stood := { row := lawS4593CVerdictRow, standIns := [], harness := (true, "3fa5309ffd882438920384992d86953cbc1690ac5d71f0757595dbb260c82cc6"), looks := true }, told := true, laidByText := true, laidKinds := [.sentinel, .sentinel], laidTests := true, laidLooks := .later, goes := false }
def LawS4593CVerdictToldSaid : Prop := Claim7.holds Ybaf.pinned (.plain (OpenSpec.ofChange lawS4593CVerdictSpec)) lawS4593CVerdictCard
/-- ITS FALSE NEIGHBOUR. Refute it at one input. -/
def LawS4593CVerdictToldWrongFalsely : Prop := Claim7.holds Ybaf.pinned (.plain (OpenSpec.ofChange lawS4593CVerdictWrong)) lawS4593CVerdictCard
end Rows
end Go.Proofs.YbulkcqceFmt
