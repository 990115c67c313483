/-
  Worlds, block by block.
-/
import Derived.Test.YbulkcgsgRows
import Derived.WalkKit
import Derived.WalkSpells
import Derived.Maps.OwnSet
import Derived.Deep.DeepCutAuto
import Derived.Deep.CutBlock
import Derived.Deep.Light
import Derived.Outline
namespace Go.Proofs.Ybulkcgsg
open Go.RowKit

/-! ### worlds, block by block -/
/-- w' is w but for the blocks of F and new ones. -/
structure Kept (w w' : World) (F : Nat → Prop) : Prop where
  os : w'.os = w.os
  tape : w'.tape = w.tape
  output : w'.output = w.output
  size : w.heap.size ≤ w'.heap.size
  block : ∀ b, b < w.heap.size → ¬ F b → w'.heap[b]? = w.heap[b]?

theorem Kept.refl (w : World) (F : Nat → Prop) : Kept w w F := ⟨rfl, rfl, rfl, Nat.le_refl _, fun _ _ _ => rfl⟩
theorem Kept.trans {a b c : World} {F G : Nat → Prop} (h : Kept a b F) (k : Kept b c G) (hG : ∀ x, x < a.heap.size → G x → F x) : Kept a c F :=
  ⟨k.os.trans h.os, k.tape.trans h.tape, k.output.trans h.output, Nat.le_trans h.size k.size, fun x hx hF => (k.block x (Nat.lt_of_lt_of_le hx h.size) (fun g => hF (hG x hx g))).trans (h.block x hx hF)⟩
theorem Kept.drew (w : World) (F : Nat → Prop) : Kept w w.drew F := ⟨rfl, rfl, rfl, Nat.le_refl _, fun _ _ _ => rfl⟩
theorem Kept.alloc (w : World) (o : Obj) (F : Nat → Prop) : Kept w (w.alloc o) F := ⟨rfl, rfl, rfl, by simp, fun b hb _ => Below.heap_alloc w o b hb⟩
theorem Kept.setCell (w : World) (a : Addr) (v : Value) (F : Nat → Prop) (h : F a.block) : Kept w (w.setCell a v) F :=
  ⟨rfl, rfl, rfl, by simp, fun b _ hF => Below.heap_setCell w a v b (fun e => hF (e ▸ h))⟩
theorem Kept.grown {w w' : World} {row : Option Nat} (h : w.grownBy w' row) (F : Nat → Prop) (hF : ∀ b, row = some b → F b) : Kept w w' F :=
  ⟨h.os, h.tape, h.output, h.size, fun b hb hn => h.block b hb (fun e => hn (hF b e.symm))⟩
theorem Kept.below {w w' : World} {F : Nat → Prop} {B : Nat} (h : Kept w w' F) (hB : B ≤ w.heap.size) (hF : ∀ b, F b → B ≤ b) : Below B w w' :=
  ⟨h.os, h.tape, h.output, h.size, fun b hb => h.block b (by omega) (fun f => by have := hF b f; omega)⟩

theorem map_block {H : Type} {w w' : World} {P : Program} {k : TypeId} {R : Value → Option (DataW H × List MemPlace)} {b n : Nat} {D : DataW H} (h : w.ownsMap P k R b n D) (hb : w'.heap[b]? = w.heap[b]?) : w'.ownsMap P k R b n D := by
  obtain ⟨es, clock, hh, r⟩ := h
  exact ⟨es, clock, hb.trans hh, r⟩
theorem map_is {H : Type} {w : World} {P : Program} {k : TypeId} {R : Value → Option (DataW H × List MemPlace)} {b n : Nat} {D : DataW H} (h : w.ownsMap P k R b n D) : ∃ es clock, w.heap[b]? = some (.map es clock) := by
  obtain ⟨es, clock, hh, _⟩ := h
  exact ⟨es, clock, hh⟩

theorem heap_set {w : World} {a : Nat} {cur : Array Value} {e : TypeId} {fr : Nat × Nat} (h : w.heap[a]? = some (.cells cur e fr)) (j : Nat) (u : Value) : (w.setCell ⟨a, j, none⟩ u).heap[a]? = some (.cells (cur.setIfInBounds j u) e fr) := by
  have hlt := lt_of_block h
  have h' : w.heap[a] = .cells cur e fr := by simpa [Array.getElem?_eq_getElem hlt] using h
  show (w.heap.modify a _)[a]? = _
  rw [Array.getElem?_eq_getElem (by simpa using hlt), Array.getElem_modify_self, h']
  rfl

/-- 'len(m)', m a map, AT THE OPERATION, guarded or not. -/
theorem wpList_lenMap {P : Program} {w : World} {ops : Array Oper} {rest : List Oper} {o : Oper} {a : Act} {Q : Exit → Act → World → Prop} (hw : Region.wanted o (yielded ops a.tmps) = true) (m : Operand) (t : TypeId)
    (hop : o.op = Op.call { callee := Callee.builtin Builtin.len, args := #[m], argTypes := #[t] }) (v : Value) (hm : a.eval m = v) (n : Int) (hrun : ∀ ty, (Builtin.len_ #[t] ty #[v]).run P w = .ok (.int .i64 n) w)
    (hK : wpList P ops Q rest (a.put o.dst (.int .i64 n)) w) : wpList P ops Q (o :: rest) a w := by
  refine wpList_step fun K' hK' => ?_
  rw [if_pos hw]
  unfold Oper.wp
  simp [execOp, hop, resolve, invoke, builtin, hm, hrun, Result.andThen]
  exact hK' _ _ hK


theorem Kept.cell {w w1 : World} {F : Nat → Prop} (h : Kept w w1 F) (a : Addr) (hlt : a.block < w.heap.size) (hF : ¬ F a.block) : w1.cell? a = w.cell? a := World.cell?_of_block (h.block _ hlt hF)
theorem Kept.weak {w w1 : World} {F G : Nat → Prop} (h : Kept w w1 F) (hFG : ∀ b, b < w.heap.size → F b → G b) : Kept w w1 G := ⟨h.os, h.tape, h.output, h.size, fun b hb hG => h.block b hb (fun f => hG (hFG b hb f))⟩


/-! ### maps of strings -/
/-- An element of the map is held as it is. -/
def hR (v : Value) : Option (DataW Value × List MemPlace) := some (.held v, [])
theorem key_str {s : ByteArray} (h : s.size ≤ maxLen) : keyOf Yba.prog 9 (.string s) = some (.string s.data.toList) := by
  simpa using WideMaps.keyOf_string_mk (P := Yba.prog) Yba.underlying9 (s := s) h
theorem zero9 (w : World) : (zeroValue 9).run Yba.prog w = .ok (.string ⟨#[]⟩) w := by kernel_rfl
theorem isKey (l : List UInt8) : WideAt.IsKeyLit (.string l) := trivial
theorem lit_ne {a b : List UInt8} (h : a ≠ b) : (Lit.string a) ≠ Lit.string b := fun e => h (Lit.string.inj e)

/-- The map's datum behind a map's value: a nil map is empty. -/
def CM (w : World) (m : Option Nat) (cnt : Nat) (D : DataW Value) : Prop := match m with
  | none => D = .map [] ∧ cnt = 0
  | some b => w.ownsMap Yba.prog 9 hR b cnt D

theorem look {w : World} {b n : Nat} {D : DataW Value} (h : w.ownsMap Yba.prog 9 hR b n D) {s : ByteArray} (hs : s.size ≤ maxLen) {v : Value} {ok : Bool} (hv : D.atKey (.string s.data.toList) (.held (.string ⟨#[]⟩)) = .held v) (ho : Maps.has D (.string s.data.toList) = ok) :
    (Instr.lookup 24 (.map (some b)) (.string s) true).run Yba.prog w = .ok (.tuple #[v, .bool ok]) w := by
  obtain ⟨v', ps, hr, h2⟩ := h.look_ok (Maps.string_keyed Yba.underlying9) Yba.underlying24 (zero9 w) (show hR (.string ⟨#[]⟩) = some (.held (.string ⟨#[]⟩), []) from rfl) (key_str hs)
  simp only [hR, Option.some.injEq, Prod.mk.injEq] at h2
  rw [hv] at h2
  obtain ⟨h3, _⟩ := h2
  cases h3
  rw [ho] at hr
  exact hr

theorem map_nil (x : World) (b : Nat) : (binOp .eql 24 (.map (some b)) (.map none)).run Yba.prog x = .ok (.bool false) x := by kernel_rfl
theorem nil_nil (x : World) : (binOp .eql 24 (.map none) (.map none)).run Yba.prog x = .ok (.bool true) x := by kernel_rfl
/-- The Config at block Bc. -/
def Cfg (w : World) (Bc : Nat) (m : Option Nat) (sv dl dv : Value) : Prop := w.heap[Bc]? = some (.cells #[.map m, sv, dl, dv] 28 (0, 0))

set_option maxRecDepth 100000 in
/-- 'c.Set(name, value)', c's map there. -/
theorem set6 (w : World) (Bc bm cnt : Nat) (D : DataW Value) (sv dl : Value) (dv : Option Addr) (hC : Cfg w Bc (some bm) sv dl (.pointer dv)) (hm : w.ownsMap Yba.prog 9 hR bm cnt D) (hc : cnt ≤ 2000) (s v : ByteArray) (hs : s.size ≤ maxLen) :
    Calls Yba.prog 6 #[.pointer (some ⟨Bc, 0, none⟩), .string s, .string v] w fun e w' => (∃ u, e = .returned u) ∧ Cfg w' Bc (some bm) sv dl (.pointer none) ∧ w'.ownsMap Yba.prog 9 hR bm (cnt + 1) (D.put (.string s.data.toList) (.held (.string v))) ∧ Kept w w' (fun b => b = bm ∨ b = Bc) := by
  have c0 : w.cell? ⟨Bc, 0, none⟩ = some (.map (some bm)) := by simp only [World.cell?, show w.heap[Bc]? = _ from hC]; rfl
  have hne : Bc ≠ bm := fun e => by
    subst e
    obtain ⟨es, cl, hh⟩ := map_is hm
    rw [show w.heap[Bc]? = _ from hC] at hh; cases hh
  obtain ⟨w1, hrun, hown1, hg1⟩ := hm.update (Maps.string_keyed Yba.underlying9) Yba.underlying24 (by unfold maxLen; omega) (key_str hs) (show hR (.string v) = some (.held (.string v), []) from rfl)
  have hC1 : w1.heap[Bc]? = some (.cells #[.map (some bm), sv, dl, .pointer dv] 28 (0, 0)) := (hg1.block Bc (lt_of_block hC) (fun e => hne (Option.some.inj e))).trans hC
  have c3 : w1.cell? ⟨Bc, 3, none⟩ = some (.pointer dv) := by simp only [World.cell?, hC1]; rfl
  have f3 : w1.frozen? ⟨Bc, 3, none⟩ = false := by simp [World.frozen?, hC1]
  have mn := map_nil
  go_enter Yba.func6, Yba.ntmps6
  go_wp2
  refine bodyPost_end (v := .tuple #[]) (by simp [results, Yba.results6]) rfl ⟨⟨_, rfl⟩, ?_, ?_, ?_⟩
  · exact heap_set hC1 3 (.pointer none)
  · exact map_block hown1 (Below.heap_setCell _ _ _ _ (Ne.symm hne))
  · exact (Kept.grown hg1 (fun b => b = bm ∨ b = Bc) (fun b hb => .inl (Option.some.inj hb).symm)).trans (Kept.setCell w1 ⟨Bc, 3, none⟩ _ (fun b => b = bm ∨ b = Bc) (.inr rfl)) (fun _ _ h => h)

set_option maxRecDepth 100000 in
theorem setting7 (w : World) (Bc : Nat) (m : Option Nat) (sv dl dv : Value) (hC : Cfg w Bc m sv dl dv) (s : ByteArray) (v : Value) (ok : Bool) (hl : (Instr.lookup 24 (.map m) (.string s) true).run Yba.prog w = .ok (.tuple #[v, .bool ok]) w) :
    Calls Yba.prog 7 #[.pointer (some ⟨Bc, 0, none⟩), .string s] w fun e w' => e = .returned (.tuple #[v, .bool ok]) ∧ w' = w := by
  have c0 : w.cell? ⟨Bc, 0, none⟩ = some (.map m) := by simp only [World.cell?, show w.heap[Bc]? = _ from hC]; rfl
  go_enter Yba.func7, Yba.ntmps7
  go_wp2
  go_ret2
  exact ⟨rfl, rfl⟩
end Go.Proofs.Ybulkcgsg
