/-
  No cell of these rows narrows 'for every input' (looked for: loops, veiled, ifaces, maps, wideKeys, modest, calm, conditions, laid).
  DERIVED. THE GIVEN ROWS OF THIS SEAT. 2 by the template 'for every input the law returns true; each argument reads behind the call as it read before'; 0 by the template 'total and deterministic' (their statements: YbulkcgsgTotals.lean).
  GIVEN WITH THE SEED: the statements are not yours to turn. If you find one false, say at which input.
  Laid BY PROGRAM, IN A SANDBOX (cutbox-rows.mjs): the forced cells as the released guide's own fill.sh prints them over the translation 95ce369df3f99bc9… (all of the seat's roots in one cut). By AI agents, Wed Nov 11 2026. No macro, syntax, notation, axiom, sorry.
-/
import Derived.Test.YbulkcgsgChecked
import GoSem.Claim
import GoSem.ClaimJoined
import GoSem.ClaimMapViews
import Derived.JoinedTies
import Derived.KernelRfl
namespace Go.Proofs.Ybulkcgsg
/- THE CELL 'sum', in the pinned program and in every row, IS THE sha256 OF THE DUMP (.gsa) THAT YbulkcgsgProg.lean LOADS. Nothing in Lean hashes anything: it is a label: what it is worth is what the hold of that sum in a sandbox is worth. -/
noncomputable def Yba.pinned : Pinned := { name := "ybulkcgsg", sum := "95ce369df3f99bc9a6f87f7a8a9c1aa9de10cc4fe126e3b5975dd36c7f5f1899", checked := Yba.checked }
namespace Rows
def none {H : Type} : Left H := { results := [], args := [] }

/-- 'param.LawS4140ALastWins': WHATEVER THE INPUT: true; the input reads as it did. -/
def lawS4140ALastWinsSpec : ChangeSpec := { name := "lawS4140ALastWins", fn := fun _ => fun
  | [d] => { results := [.lit (.bool true)], args := [d] }
  | _ => none }
def lawS4140ALastWinsRow : OpenClaim := { program := "ybulkcgsg", sum := "95ce369df3f99bc9a6f87f7a8a9c1aa9de10cc4fe126e3b5975dd36c7f5f1899", func := "example.com/mailwright/mailwright/param.LawS4140ALastWins", spec := "lawS4140ALastWins", apart := false }
def LawS4140ALastWinsSaid : Prop := lawS4140ALastWinsRow.holds Yba.pinned (OpenSpec.ofChange lawS4140ALastWinsSpec)

/-- ITS FALSE NEIGHBOUR: 'it returns false'. Refute it at one input. -/
def lawS4140ALastWinsWrong : ChangeSpec := { name := "lawS4140ALastWins", fn := fun _ => fun
  | [d] => { results := [.lit (.bool false)], args := [d] }
  | _ => none }
def LawS4140ALastWinsWrongFalsely : Prop := lawS4140ALastWinsRow.holds Yba.pinned (OpenSpec.ofChange lawS4140ALastWinsWrong)

/-- 'param.LawS4140AKeepsOthers': WHATEVER THE INPUT: true; the input reads as it did. -/
def lawS4140AKeepsOthersSpec : ChangeSpec := { name := "lawS4140AKeepsOthers", fn := fun _ => fun
  | [d1, d2, d3, d4, d5, d6] => { results := [.lit (.bool true)], args := [d1, d2, d3, d4, d5, d6] }
  | _ => none }
def lawS4140AKeepsOthersRow : OpenClaim := { program := "ybulkcgsg", sum := "95ce369df3f99bc9a6f87f7a8a9c1aa9de10cc4fe126e3b5975dd36c7f5f1899", func := "example.com/mailwright/mailwright/param.LawS4140AKeepsOthers", spec := "lawS4140AKeepsOthers", apart := false }
def LawS4140AKeepsOthersSaid : Prop := lawS4140AKeepsOthersRow.holds Yba.pinned (OpenSpec.ofChange lawS4140AKeepsOthersSpec)

/-- ITS FALSE NEIGHBOUR: 'it returns false'. Refute it at one input. -/
def lawS4140AKeepsOthersWrong : ChangeSpec := { name := "lawS4140AKeepsOthers", fn := fun _ => fun
  | [d1, d2, d3, d4, d5, d6] => { results := [.lit (.bool false)], args := [d1, d2, d3, d4, d5, d6] }
  | _ => none }
def LawS4140AKeepsOthersWrongFalsely : Prop := lawS4140AKeepsOthersRow.holds Yba.pinned (OpenSpec.ofChange lawS4140AKeepsOthersWrong)

end Rows
end Go.Proofs.Ybulkcgsg
