/-
  Worlds, block by block.
-/
import Derived.Test.YbulkcgqqRows
import Derived.WalkKit
import Derived.WalkSpells
import Derived.Maps.OwnSet
import Derived.Deep.DeepCutAuto
import Derived.Deep.CutBlock
import Derived.Deep.Light
import Derived.Outline
namespace Go.Proofs.Ybulkcgqq
open Go.RowKit

/-! ### worlds, block by block -/
/-- w' is w but for the blocks of F and new ones. -/
structure Kept (w w' : World) (F : Nat → Prop) : Prop where
  os : w'.os = w.os
  tape : w'.tape = w.tape
  output : w'.output = w.output
  size : w.heap.size ≤ w'.heap.size
  block : ∀ b, b < w.heap.size → ¬ F b → w'.heap[b]? = w.heap[b]?

theorem Kept.refl (w : World) (F : Nat → Prop) : Kept w w F := ⟨rfl, rfl, rfl, Nat.le_refl _, fun _ _ _ => rfl⟩
theorem Kept.trans {a b c : World} {F G : Nat → Prop} (h : Kept a b F) (k : Kept b c G) (hG : ∀ x, x < a.heap.size → G x → F x) : Kept a c F :=
  ⟨k.os.trans h.os, k.tape.trans h.tape, k.output.trans h.output, Nat.le_trans h.size k.size, fun x hx hF => (k.block x (Nat.lt_of_lt_of_le hx h.size) (fun g => hF (hG x hx g))).trans (h.block x hx hF)⟩
theorem Kept.drew (w : World) (F : Nat → Prop) : Kept w w.drew F := ⟨rfl, rfl, rfl, Nat.le_refl _, fun _ _ _ => rfl⟩
theorem Kept.alloc (w : World) (o : Obj) (F : Nat → Prop) : Kept w (w.alloc o) F := ⟨rfl, rfl, rfl, by simp, fun b hb _ => Below.heap_alloc w o b hb⟩
theorem Kept.setCell (w : World) (a : Addr) (v : Value) (F : Nat → Prop) (h : F a.block) : Kept w (w.setCell a v) F :=
  ⟨rfl, rfl, rfl, by simp, fun b _ hF => Below.heap_setCell w a v b (fun e => hF (e ▸ h))⟩
theorem Kept.grown {w w' : World} {row : Option Nat} (h : w.grownBy w' row) (F : Nat → Prop) (hF : ∀ b, row = some b → F b) : Kept w w' F :=
  ⟨h.os, h.tape, h.output, h.size, fun b hb hn => h.block b hb (fun e => hn (hF b e.symm))⟩
theorem Kept.below {w w' : World} {F : Nat → Prop} {B : Nat} (h : Kept w w' F) (hB : B ≤ w.heap.size) (hF : ∀ b, F b → B ≤ b) : Below B w w' :=
  ⟨h.os, h.tape, h.output, h.size, fun b hb => h.block b (by omega) (fun f => by have := hF b f; omega)⟩

theorem map_block {H : Type} {w w' : World} {P : Program} {k : TypeId} {R : Value → Option (DataW H × List MemPlace)} {b n : Nat} {D : DataW H} (h : w.ownsMap P k R b n D) (hb : w'.heap[b]? = w.heap[b]?) : w'.ownsMap P k R b n D := by
  obtain ⟨es, clock, hh, r⟩ := h
  exact ⟨es, clock, hb.trans hh, r⟩
theorem map_is {H : Type} {w : World} {P : Program} {k : TypeId} {R : Value → Option (DataW H × List MemPlace)} {b n : Nat} {D : DataW H} (h : w.ownsMap P k R b n D) : ∃ es clock, w.heap[b]? = some (.map es clock) := by
  obtain ⟨es, clock, hh, _⟩ := h
  exact ⟨es, clock, hh⟩

theorem heap_set {w : World} {a : Nat} {cur : Array Value} {e : TypeId} {fr : Nat × Nat} (h : w.heap[a]? = some (.cells cur e fr)) (j : Nat) (u : Value) : (w.setCell ⟨a, j, none⟩ u).heap[a]? = some (.cells (cur.setIfInBounds j u) e fr) := by
  have hlt := lt_of_block h
  have h' : w.heap[a] = .cells cur e fr := by simpa [Array.getElem?_eq_getElem hlt] using h
  show (w.heap.modify a _)[a]? = _
  rw [Array.getElem?_eq_getElem (by simpa using hlt), Array.getElem_modify_self, h']
  rfl

/-- 'len(m)', m a map, AT THE OPERATION, guarded or not. -/
theorem wpList_lenMap {P : Program} {w : World} {ops : Array Oper} {rest : List Oper} {o : Oper} {a : Act} {Q : Exit → Act → World → Prop} (hw : Region.wanted o (yielded ops a.tmps) = true) (m : Operand) (t : TypeId)
    (hop : o.op = Op.call { callee := Callee.builtin Builtin.len, args := #[m], argTypes := #[t] }) (v : Value) (hm : a.eval m = v) (n : Int) (hrun : ∀ ty, (Builtin.len_ #[t] ty #[v]).run P w = .ok (.int .i64 n) w)
    (hK : wpList P ops Q rest (a.put o.dst (.int .i64 n)) w) : wpList P ops Q (o :: rest) a w := by
  refine wpList_step fun K' hK' => ?_
  rw [if_pos hw]
  unfold Oper.wp
  simp [execOp, hop, resolve, invoke, builtin, hm, hrun, Result.andThen]
  exact hK' _ _ hK


theorem Kept.cell {w w1 : World} {F : Nat → Prop} (h : Kept w w1 F) (a : Addr) (hlt : a.block < w.heap.size) (hF : ¬ F a.block) : w1.cell? a = w.cell? a := World.cell?_of_block (h.block _ hlt hF)
theorem Kept.weak {w w1 : World} {F G : Nat → Prop} (h : Kept w w1 F) (hFG : ∀ b, b < w.heap.size → F b → G b) : Kept w w1 G := ⟨h.os, h.tape, h.output, h.size, fun b hb hG => h.block b hb (fun f => hG (hFG b hb f))⟩

end Go.Proofs.Ybulkcgqq
