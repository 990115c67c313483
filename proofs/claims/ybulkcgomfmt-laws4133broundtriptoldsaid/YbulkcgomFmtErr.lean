/-
  Closed facts on fmt's stop, and the error of a host that is not numbered.
-/
import Derived.Test.YbulkcgomFmtBase
import Derived.Stop.CallBack
import Derived.Stop.IfaceNil
import GoSem.ClaimData
import Derived.Outline
namespace Go.Proofs.YbulkcgomFmt
open Go.RowKit Go.Extern.Stop Go.Stop Go.Extern

theorem call12 (args : Array Value) (w : World) : (callFunc 12 args).run Ybaf.prog w = ((FmtStop.errorf #[9, 62] #[27] args).run Ybaf.prog w).andThen fun v w' => .ok (.value v) w' :=
  run_callFunc_extern Ybaf.func12 (by kernel_rfl) (by kernel_rfl) (by kernel_rfl) (by kernel_rfl) args w
theorem guardF (name : String) (w : World) : (FmtStop.guard name).run Ybaf.prog w = .ok () w := by kernel_rfl
theorem fmt0 : FmtStop.printed? ⟨#[99, 108, 111, 99, 107, 58, 32, 104, 111, 115, 116, 32, 37, 113, 32, 105, 115, 32, 110, 111, 116, 32, 97, 109, 111, 110, 103, 32, 116, 104, 101, 32, 104, 111, 115, 116, 115, 32, 111, 102, 32, 116, 104, 101, 32, 115, 121, 115, 116, 101, 109]⟩ 1 = some [(0, 113, false)] := by kernel_rfl
theorem fmt0r (w : World) : (FmtDoors.printed ⟨#[99, 108, 111, 99, 107, 58, 32, 104, 111, 115, 116, 32, 37, 113, 32, 105, 115, 32, 110, 111, 116, 32, 97, 109, 111, 110, 103, 32, 116, 104, 101, 32, 104, 111, 115, 116, 115, 32, 111, 102, 32, 116, 104, 101, 32, 115, 121, 115, 116, 101, 109]⟩ 1).run Ybaf.prog w = .ok [(0, 113, false)] w := by kernel_rfl
def shape9 : List UInt8 := [12, 6, 0, 0, 0, 0, 0, 0, 0, 115, 116, 114, 105, 110, 103]
theorem op9_113w (name : String) (x : ByteArray) (w : World) : (FmtStop.operand name true 113 false (.iface 9 (.string x))).run Ybaf.prog w = .ok (shape9, FmtStop.pack x.data.toList) w := by kernel_rfl
theorem op9_113 (name : String) (x : ByteArray) (w : World) : (FmtStop.operand name false 113 false (.iface 9 (.string x))).run Ybaf.prog w = .ok (shape9, FmtStop.pack x.data.toList) w := by kernel_rfl
theorem strict9 (name : String) (x : ByteArray) (w : World) : (FmtStop.strict name (.iface 9 (.string x))).run Ybaf.prog w = .ok (shape9, FmtStop.pack x.data.toList) w := by kernel_rfl
theorem ptr72 (w : World) : (FmtStop.ptrTo "errors.errorString").run Ybaf.prog w = .ok 72 w := by kernel_rfl
theorem elem72 (w : World) : (elemOf 72).run Ybaf.prog w = .ok 74 w := by kernel_rfl
theorem isError72 (w : World) : (FmtDoors.textMethod 72 "Error").run Ybaf.prog w = .ok true w := by kernel_rfl

attribute [local go_sem] call12 guardF fmt0 fmt0r op9_113w op9_113 strict9 ptr72 elem72 isError72

set_option maxRecDepth 100000 in
theorem notNumbered (F : Interp) (s : ByteArray) (w : World) (hF : F.answers w.tape) :
    Calls Ybaf.prog 16 #[.string s] w fun e w' => ∃ a, e = .returned (.iface 72 (.pointer (some a))) ∧ Kept w w' (fun _ => False) := by
  have hF' := answers_open hF
  go_enter Ybaf.func16, Ybaf.ntmps16
  go_wp2
  go_ret
  exact ⟨_, rfl, ((Kept.alloc w _ (fun _ => False)).trans (Kept.alloc _ _ (fun _ => False)) (fun _ _ h => h)).trans (Kept.drew _ (fun _ => False)) (fun _ _ h => h)⟩

#print axioms notNumbered
end Go.Proofs.YbulkcgomFmt
