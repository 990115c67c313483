/-
  NARROWER THAN 'FOR EVERY INPUT', by the rows' own cells (each row's printed sentence says how): LawS4133BRoundTrip: ifaces, laid.
  DERIVED. THE GIVEN ROWS OF THIS SEAT. 1 by the template 'for every input the law returns true; each argument reads behind the call as it read before'; 0 by the template 'total and deterministic' (their statements: YbulkcgomFmtTotals.lean).
  GIVEN WITH THE SEED: the statements are not yours to turn. If you find one false, say at which input.
  Laid BY PROGRAM, IN A SANDBOX (cutbox-rows.mjs): the forced cells as the released guide's own fill.sh prints them over the translation 1ed154f92e888adb… (all of the seat's roots in one cut). By AI agents, Wed Nov 11 2026. No macro, syntax, notation, axiom, sorry.
-/
import Derived.Test.YbulkcgomFmtChecked
import GoSem.Claim
import GoSem.ClaimJoined
import GoSem.ClaimMapViews
import Derived.JoinedTies
import Derived.KernelRfl
namespace Go.Proofs.YbulkcgomFmt
/- THE CELL 'sum', in the pinned program and in every row, IS THE sha256 OF THE DUMP (.gsa) THAT YbulkcgomFmtProg.lean LOADS. Nothing in Lean hashes anything: it is a label: what it is worth is what the hold of that sum in a sandbox is worth. -/
noncomputable def Ybaf.pinned : Pinned := { name := "ybulkcgomfmt", sum := "1ed154f92e888adb87fe8e8470311744d665cb5cf02b8b48e29ffe558b0262a8", checked := Ybaf.checked }
namespace Rows
def none {H : Type} : Left H := { results := [], args := [] }

/- WHAT THE LISTED PACKAGE-LEVEL VARIABLES READ AS WHEN THE CALL BEGINS. Each datum BY PROGRAM (the guide's laid-datum.mjs) off the statement by which the dump's own 'gosem.cut.vars' lays the variable. In a bare row this is a premise. The card (YbulkcgomFmtCards.lean) ties it to the program's text. -/
def laid_example_com_antecede_antecede_clock_errWireCut {H : Type} : DataW H := .iface "*errors.errorString" (.ptr (.agg [.lit (.string [99, 108, 111, 99, 107, 58, 32, 119, 105, 114, 101, 32, 102, 111, 114, 109, 32, 99, 117, 116, 32, 115, 104, 111, 114, 116, 32, 111, 114, 32, 111, 117, 116, 32, 111, 102, 32, 114, 97, 110, 103, 101])]))

/-- 'clock.LawS4133BRoundTrip': WHATEVER THE INPUT: true; the input reads as it did. -/
def lawS4133BRoundTripSpec : ChangeSpec := { name := "lawS4133BRoundTrip", vars := ["example.com/antecede/antecede/clock.errWireCut"], fn := fun _ => fun
  | [d1, d2, d3, g1] => { results := [.lit (.bool true)], args := [d1, d2, d3], vars := [g1] }
  | _ => none }
def lawS4133BRoundTripRow : OpenClaim := { program := "ybulkcgomfmt", sum := "1ed154f92e888adb87fe8e8470311744d665cb5cf02b8b48e29ffe558b0262a8", func := "example.com/antecede/antecede/clock.LawS4133BRoundTrip", spec := "lawS4133BRoundTrip", stops := ["fmt.errorf"], inPlace := ["fmt.errorf"], named := ["example.com/antecede/antecede/clock.errWireCut"], ifaces := true, apart := false, laid := [("example.com/antecede/antecede/clock.errWireCut", laid_example_com_antecede_antecede_clock_errWireCut)] }
/-- NO THEOREM (fmt's text is open here; it may be false): for the released tool's asking of the row's closed facts alone. THE STATEMENT IS 'LawS4133BRoundTripToldSaid' (YbulkcgomFmtCards.lean). -/
def LawS4133BRoundTripFormAsk : Prop := lawS4133BRoundTripRow.holds Ybaf.pinned (OpenSpec.ofChange lawS4133BRoundTripSpec)

/-- ITS FALSE NEIGHBOUR: 'it returns false'. Refute it at one input. -/
def lawS4133BRoundTripWrong : ChangeSpec := { name := "lawS4133BRoundTrip", vars := ["example.com/antecede/antecede/clock.errWireCut"], fn := fun _ => fun
  | [d1, d2, d3, g1] => { results := [.lit (.bool false)], args := [d1, d2, d3], vars := [g1] }
  | _ => none }
def LawS4133BRoundTripWrongFormAsk : Prop := lawS4133BRoundTripRow.holds Ybaf.pinned (OpenSpec.ofChange lawS4133BRoundTripWrong)

end Rows
end Go.Proofs.YbulkcgomFmt
