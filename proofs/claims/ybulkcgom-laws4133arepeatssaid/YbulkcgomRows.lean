/-
  No cell of these rows narrows 'for every input' (looked for: loops, veiled, ifaces, maps, wideKeys, modest, calm, conditions, laid).
  DERIVED. THE GIVEN ROWS OF THIS SEAT. 2 by the template 'for every input the law returns true; each argument reads behind the call as it read before'; 0 by the template 'total and deterministic' (their statements: YbulkcgomTotals.lean).
  GIVEN WITH THE SEED: the statements are not yours to turn. If you find one false, say at which input.
  Laid BY PROGRAM, IN A SANDBOX (cutbox-rows.mjs): the forced cells as the released guide's own fill.sh prints them over the translation ae272ed5b8a0e559… (all of the seat's roots in one cut). By AI agents, Wed Nov 11 2026. No macro, syntax, notation, axiom, sorry.
-/
import Derived.Test.YbulkcgomChecked
import GoSem.Claim
import GoSem.ClaimJoined
import GoSem.ClaimMapViews
import Derived.JoinedTies
import Derived.KernelRfl
namespace Go.Proofs.Ybulkcgom
/- THE CELL 'sum', in the pinned program and in every row, IS THE sha256 OF THE DUMP (.gsa) THAT YbulkcgomProg.lean LOADS. Nothing in Lean hashes anything: it is a label: what it is worth is what the hold of that sum in a sandbox is worth. -/
noncomputable def Yba.pinned : Pinned := { name := "ybulkcgom", sum := "ae272ed5b8a0e5594e2d7986a6cbf0e8665fd0878def8e049ec444b6e5386465", checked := Yba.checked }
namespace Rows
def none {H : Type} : Left H := { results := [], args := [] }

/-- 'eventlog.LawS4133AFirstMet': WHATEVER THE INPUT: true; the input reads as it did. -/
def lawS4133AFirstMetSpec : ChangeSpec := { name := "lawS4133AFirstMet", fn := fun _ => fun
  | [d] => { results := [.lit (.bool true)], args := [d] }
  | _ => none }
def lawS4133AFirstMetRow : OpenClaim := { program := "ybulkcgom", sum := "ae272ed5b8a0e5594e2d7986a6cbf0e8665fd0878def8e049ec444b6e5386465", func := "example.com/antecede/antecede/eventlog.LawS4133AFirstMet", spec := "lawS4133AFirstMet", apart := false }
def LawS4133AFirstMetSaid : Prop := lawS4133AFirstMetRow.holds Yba.pinned (OpenSpec.ofChange lawS4133AFirstMetSpec)

/-- ITS FALSE NEIGHBOUR: 'it returns false'. Refute it at one input. -/
def lawS4133AFirstMetWrong : ChangeSpec := { name := "lawS4133AFirstMet", fn := fun _ => fun
  | [d] => { results := [.lit (.bool false)], args := [d] }
  | _ => none }
def LawS4133AFirstMetWrongFalsely : Prop := lawS4133AFirstMetRow.holds Yba.pinned (OpenSpec.ofChange lawS4133AFirstMetWrong)

/-- 'eventlog.LawS4133ARepeats': WHATEVER THE INPUT: true; the input reads as it did. -/
def lawS4133ARepeatsSpec : ChangeSpec := { name := "lawS4133ARepeats", fn := fun _ => fun
  | [d] => { results := [.lit (.bool true)], args := [d] }
  | _ => none }
def lawS4133ARepeatsRow : OpenClaim := { program := "ybulkcgom", sum := "ae272ed5b8a0e5594e2d7986a6cbf0e8665fd0878def8e049ec444b6e5386465", func := "example.com/antecede/antecede/eventlog.LawS4133ARepeats", spec := "lawS4133ARepeats", apart := false }
def LawS4133ARepeatsSaid : Prop := lawS4133ARepeatsRow.holds Yba.pinned (OpenSpec.ofChange lawS4133ARepeatsSpec)

/-- ITS FALSE NEIGHBOUR: 'it returns false'. Refute it at one input. -/
def lawS4133ARepeatsWrong : ChangeSpec := { name := "lawS4133ARepeats", fn := fun _ => fun
  | [d] => { results := [.lit (.bool false)], args := [d] }
  | _ => none }
def LawS4133ARepeatsWrongFalsely : Prop := lawS4133ARepeatsRow.holds Yba.pinned (OpenSpec.ofChange lawS4133ARepeatsWrong)

end Rows
end Go.Proofs.Ybulkcgom
