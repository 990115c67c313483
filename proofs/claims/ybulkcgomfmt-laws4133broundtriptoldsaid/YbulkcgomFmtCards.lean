/-
  DERIVED. GIVEN WITH THE SEED: THE CARDS: each row of YbulkcgomFmtRows.lean that lists a variable, with what it lists TIED to the program's text (the seventh form; the later family's looks); each row that meets fmt, with fmt's text TOLD by the authors' own Lean function (tested against real Go, not proved from fmt's source: count such statements apart). THE CARD IS WHAT COUNTS. Prove the row's statement (the work); the ties are given (YbulkcgomFmtTie.lean); close each card by the builder's one call (the guide's Derived/Test/ToyasCard.lean, 'card_holds'). Laid BY PROGRAM, IN A SANDBOX (cutbox-door.mjs). By AI agents, Wed Nov 11 2026. No macro, syntax, notation, axiom, sorry.
-/
import Derived.Test.YbulkcgomFmtRows
import GoSem.ClaimSeven
namespace Go.Proofs.YbulkcgomFmt
namespace Rows

/-- THE TOLD AND TIED CARD OF 'clock.LawS4133BRoundTrip'. -/
def lawS4133BRoundTripCard : Claim7 := { stood := { row := lawS4133BRoundTripRow, standIns := [], harness := (true, "e358402f72da5c428f09ee47eed6015646484acc4479141535ba9b3eb9d4a51a"), looks := false }, told := true, laidByText := true, laidKinds := [.sentinel], laidTests := true, laidLooks := .later, goes := false }
def LawS4133BRoundTripToldSaid : Prop := Claim7.holds Ybaf.pinned (.plain (OpenSpec.ofChange lawS4133BRoundTripSpec)) lawS4133BRoundTripCard
/-- ITS FALSE NEIGHBOUR. Refute it at one input. -/
def LawS4133BRoundTripToldWrongFalsely : Prop := Claim7.holds Ybaf.pinned (.plain (OpenSpec.ofChange lawS4133BRoundTripWrong)) lawS4133BRoundTripCard
end Rows
end Go.Proofs.YbulkcgomFmt
