/-
  The plain part: names, the map's datum, variable-length numbers; worlds block by block.
-/
import Derived.Test.YbulkcgomFmtRows
import Derived.WalkKit
import Derived.WalkSpells
import Derived.Maps.OwnSet
import Derived.Maps.AppendAt
import Derived.Deep.AppendLies
namespace Go.Proofs.YbulkcgomFmt
open Go.RowKit

theorem snoc_ind {α : Type} {p : List α → Prop} (h0 : p []) (h1 : ∀ l x, p l → p (l ++ [x])) (l : List α) : p l := by
  have key : ∀ r : List α, p r.reverse := by
    intro r
    induction r with
    | nil => exact h0
    | cons x r ih => rw [List.reverse_cons]; exact h1 _ _ ih
  have := key l.reverse
  rwa [List.reverse_reverse] at this

/-- A Go string out of its bytes. -/
def str (l : List UInt8) : Value := .string ⟨l.toArray⟩

/-- The map's datum: each name of d at its place. -/
def numD (d : List (List UInt8)) : DataW Unit := d.zipIdx.foldl (fun D p => D.put (.string p.1) (.lit (.int .i64 (p.2 : Int)))) (.map [])

theorem numD_nil : numD [] = .map [] := rfl
theorem numD_snoc (d : List (List UInt8)) (s : List UInt8) : numD (d ++ [s]) = (numD d).put (.string s) (.lit (.int .i64 (d.length : Int))) := by
  simp [numD, List.zipIdx_append]

theorem lit_ne {a b : List UInt8} (h : a ≠ b) : (Lit.string a) ≠ Lit.string b := fun e => h (Lit.string.inj e)

theorem isKey (s : List UInt8) : WideAt.IsKeyLit (.string s) := trivial

theorem numD_tidy (d : List (List UInt8)) : Maps.Tidy (numD d) := by
  induction d using snoc_ind with
  | h0 => exact Maps.tidy_empty
  | h1 d s ih => rw [numD_snoc]; exact ih.put (isKey _) _

theorem numD_has (d : List (List UInt8)) (s : List UInt8) : Maps.has (numD d) (.string s) = decide (s ∈ d) := by
  induction d using snoc_ind with
  | h0 => rfl
  | h1 d x ih =>
    rw [numD_snoc]
    by_cases h : s = x
    · subst h
      rw [Maps.has_put_same (numD_tidy d).isMap (isKey _)]; simp
    · rw [Maps.has_put_other (lit_ne h), ih]; simp [h]

theorem numD_at (d : List (List UInt8)) (s : List UInt8) (h : s ∈ d) (hn : d.Nodup) (z : DataW Unit) : (numD d).atKey (.string s) z = .lit (.int .i64 (d.idxOf s : Int)) := by
  induction d using snoc_ind with
  | h0 => cases h
  | h1 d x ih =>
    rw [numD_snoc]
    rw [List.nodup_append] at hn
    by_cases hx : s = x
    · subst hx
      have hni : s ∉ d := fun hm => hn.2.2 s hm s (by simp) rfl
      rw [Maps.atKey_put_same (numD_tidy d).isMap (isKey _), List.idxOf_append, if_neg hni]; simp
    · have hm : s ∈ d := by simpa [hx] using h
      rw [Maps.atKey_put_other (lit_ne hx), ih hm hn.1, List.idxOf_append, if_pos hm]

theorem numD_size (d : List (List UInt8)) (hn : d.Nodup) : Maps.size (numD d) = d.length := by
  induction d using snoc_ind with
  | h0 => rfl
  | h1 d x ih =>
    rw [List.nodup_append] at hn
    rw [numD_snoc, Maps.size_put (numD_tidy d), numD_has]
    have hni : x ∉ d := fun hm => hn.2.2 x hm x (by simp) rfl
    simp [hni, ih hn.1]

/-! ### worlds, block by block -/
/-- w' is w but for the blocks of F and new ones. -/
structure Kept (w w' : World) (F : Nat → Prop) : Prop where
  os : w'.os = w.os
  tape : w'.tape = w.tape
  output : w'.output = w.output
  size : w.heap.size ≤ w'.heap.size
  block : ∀ b, b < w.heap.size → ¬ F b → w'.heap[b]? = w.heap[b]?

theorem Kept.refl (w : World) (F : Nat → Prop) : Kept w w F := ⟨rfl, rfl, rfl, Nat.le_refl _, fun _ _ _ => rfl⟩
theorem Kept.trans {a b c : World} {F G : Nat → Prop} (h : Kept a b F) (k : Kept b c G) (hG : ∀ x, x < a.heap.size → G x → F x) : Kept a c F :=
  ⟨k.os.trans h.os, k.tape.trans h.tape, k.output.trans h.output, Nat.le_trans h.size k.size, fun x hx hF => (k.block x (Nat.lt_of_lt_of_le hx h.size) (fun g => hF (hG x hx g))).trans (h.block x hx hF)⟩
theorem Kept.drew (w : World) (F : Nat → Prop) : Kept w w.drew F := ⟨rfl, rfl, rfl, Nat.le_refl _, fun _ _ _ => rfl⟩
theorem Kept.alloc (w : World) (o : Obj) (F : Nat → Prop) : Kept w (w.alloc o) F := ⟨rfl, rfl, rfl, by simp, fun b hb _ => Below.heap_alloc w o b hb⟩
theorem Kept.setCell (w : World) (a : Addr) (v : Value) (F : Nat → Prop) (h : F a.block) : Kept w (w.setCell a v) F :=
  ⟨rfl, rfl, rfl, by simp, fun b _ hF => Below.heap_setCell w a v b (fun e => hF (e ▸ h))⟩
theorem Kept.grown {w w' : World} {row : Option Nat} (h : w.grownBy w' row) (F : Nat → Prop) (hF : ∀ b, row = some b → F b) : Kept w w' F :=
  ⟨h.os, h.tape, h.output, h.size, fun b hb hn => h.block b hb (fun e => hn (hF b e.symm))⟩
theorem Kept.below {w w' : World} {F : Nat → Prop} {B : Nat} (h : Kept w w' F) (hB : B ≤ w.heap.size) (hF : ∀ b, F b → B ≤ b) : Below B w w' :=
  ⟨h.os, h.tape, h.output, h.size, fun b hb => h.block b (by omega) (fun f => by have := hF b f; omega)⟩

theorem own_shape {w : World} {base e size : Nat} {v : Value} {n : Nat} {xs : List Value} (h : w.ownsRow base e size v n xs) : ∃ ao cap, v = .slice ao n cap := by
  rcases h.2 with ⟨rfl, rfl⟩ | ⟨g, cap, cur, rfl, _⟩
  · exact ⟨none, 0, rfl⟩
  · exact ⟨_, _, rfl⟩
theorem own_block {w w' : World} {base e size : Nat} {v : Value} {n : Nat} {xs : List Value} (h : w.ownsRow base e size v n xs) (hb : ∀ g, v.ownBlock = some g → w'.heap[g]? = w.heap[g]?) : w'.ownsRow base e size v n xs := by
  refine ⟨h.1, ?_⟩
  rcases h.2 with hn | ⟨g, cap, cur, rfl, hbg, hg, rest⟩
  · exact .inl hn
  · exact .inr ⟨g, cap, cur, rfl, hbg, (hb g rfl).trans hg, rest⟩
/-- Of what make the block is that a slice owns. -/
theorem own_is {w : World} {base e size : Nat} {v : Value} {n : Nat} {xs : List Value} (h : w.ownsRow base e size v n xs) {g : Nat} (hg : v.ownBlock = some g) : base ≤ g ∧ ∃ cur, w.heap[g]? = some (.cells cur e (0, 0)) := by
  rcases h.2 with ⟨rfl, _⟩ | ⟨g', cap, cur, rfl, hbg, hh, _⟩
  · simp [Value.ownBlock] at hg
  · simp [Value.ownBlock] at hg; subst hg; exact ⟨hbg, cur, hh⟩
theorem map_block {H : Type} {w w' : World} {P : Program} {k : TypeId} {R : Value → Option (DataW H × List MemPlace)} {b n : Nat} {D : DataW H} (h : w.ownsMap P k R b n D) (hb : w'.heap[b]? = w.heap[b]?) : w'.ownsMap P k R b n D := by
  obtain ⟨es, clock, hh, r⟩ := h
  exact ⟨es, clock, hb.trans hh, r⟩
theorem map_is {H : Type} {w : World} {P : Program} {k : TypeId} {R : Value → Option (DataW H × List MemPlace)} {b n : Nat} {D : DataW H} (h : w.ownsMap P k R b n D) : ∃ es clock, w.heap[b]? = some (.map es clock) := by
  obtain ⟨es, clock, hh, _⟩ := h
  exact ⟨es, clock, hh⟩

theorem heap_set {w : World} {a : Nat} {cur : Array Value} {e : TypeId} {fr : Nat × Nat} (h : w.heap[a]? = some (.cells cur e fr)) (j : Nat) (u : Value) : (w.setCell ⟨a, j, none⟩ u).heap[a]? = some (.cells (cur.setIfInBounds j u) e fr) := by
  have hlt := lt_of_block h
  have h' : w.heap[a] = .cells cur e fr := by simpa [Array.getElem?_eq_getElem hlt] using h
  show (w.heap.modify a _)[a]? = _
  rw [Array.getElem?_eq_getElem (by simpa using hlt), Array.getElem_modify_self, h']
  rfl

/-- 'len(m)', m a map, AT THE OPERATION, guarded or not. -/
theorem wpList_lenMap {P : Program} {w : World} {ops : Array Oper} {rest : List Oper} {o : Oper} {a : Act} {Q : Exit → Act → World → Prop} (hw : Region.wanted o (yielded ops a.tmps) = true) (m : Operand) (t : TypeId)
    (hop : o.op = Op.call { callee := Callee.builtin Builtin.len, args := #[m], argTypes := #[t] }) (v : Value) (hm : a.eval m = v) (n : Int) (hrun : ∀ ty, (Builtin.len_ #[t] ty #[v]).run P w = .ok (.int .i64 n) w)
    (hK : wpList P ops Q rest (a.put o.dst (.int .i64 n)) w) : wpList P ops Q (o :: rest) a w := by
  refine wpList_step fun K' hK' => ?_
  rw [if_pos hw]
  unfold Oper.wp
  simp [execOp, hop, resolve, invoke, builtin, hm, hrun, Result.andThen]
  exact hK' _ _ hK


/-! ### variable-length numbers -/
/-- The bytes of x, seven bits a byte, at most f + 1 of them. -/
def encF : Nat → Nat → List UInt8
  | 0, x => [UInt8.ofNat x]
  | f + 1, x => if x < 128 then [UInt8.ofNat x] else UInt8.ofNat (x % 128 + 128) :: encF f (x / 128)
def enc (x : Nat) : List UInt8 := encF 9 x
theorem encF_small (f x : Nat) (h : x < 128) : encF f x = [UInt8.ofNat x] := by
  cases f with
  | zero => rfl
  | succ f => simp [encF, h]
theorem encF_big (f x : Nat) (h : ¬ x < 128) : encF (f + 1) x = UInt8.ofNat (x % 128 + 128) :: encF f (x / 128) := by simp [encF, h]
theorem encF_length (f x : Nat) : 1 ≤ (encF f x).length ∧ (encF f x).length ≤ f + 1 := by
  induction f generalizing x with
  | zero => simp [encF]
  | succ f ih =>
    by_cases h : x < 128
    · simp [encF, h]
    · have := ih (x / 128)
      simp [encF, h]; omega
theorem enc_small {x : Nat} (h : x < 128) : enc x = [UInt8.ofNat x] := encF_small 9 x h
theorem enc_length (x : Nat) : 1 ≤ (enc x).length ∧ (enc x).length ≤ 10 := encF_length 9 x

/-- Bytes as values. -/
def bv (l : List UInt8) : List Value := l.map fun c => .int .u8 (c.toNat : Int)
theorem bv_append (a b : List UInt8) : bv (a ++ b) = bv a ++ bv b := by simp [bv]
theorem bv_length (a : List UInt8) : (bv a).length = a.length := by simp [bv]
theorem bv_one (c : UInt8) : bv [c] = [.int .u8 (c.toNat : Int)] := rfl

/-- The names of the hosts. -/
def hname (k : Nat) : List UInt8 := [104, UInt8.ofNat (48 + k)]
def hosts (n : Nat) : List (List UInt8) := (List.range n).map hname
theorem hname_inj {a b : Nat} (ha : a < 10) (hb : b < 10) (h : hname a = hname b) : a = b := by
  simp only [hname, List.cons.injEq, and_true, true_and] at h
  have := congrArg UInt8.toNat h
  simp at this
  omega
theorem hosts_length (n : Nat) : (hosts n).length = n := by simp [hosts]
theorem hosts_succ (n : Nat) : hosts (n + 1) = hosts n ++ [hname n] := by simp [hosts, List.range_succ]
theorem hosts_get {n k : Nat} (h : k < n) : (hosts n)[k]? = some (hname k) := by simp [hosts, h]
theorem hosts_mem {n k : Nat} (hk : k < 10) (hn : n ≤ 10) : hname k ∈ hosts n ↔ k < n := by
  simp only [hosts, List.mem_map, List.mem_range]
  constructor
  · rintro ⟨i, hi, e⟩
    have := hname_inj (by omega) hk e
    omega
  · intro h; exact ⟨k, h, rfl⟩
theorem hosts_nodup {n : Nat} (hn : n ≤ 10) : (hosts n).Nodup := by
  induction n with
  | zero => exact List.nodup_nil
  | succ n ih =>
    rw [hosts_succ, List.nodup_append]
    refine ⟨ih (by omega), by simp, fun a ha b hb => ?_⟩
    simp at hb; subst hb
    rintro rfl
    have := (hosts_mem (k := n) (by omega) (by omega)).1 ha
    omega
theorem hosts_idx {n k : Nat} (h : k < n) (hn : n ≤ 10) : (hosts n).idxOf (hname k) = k := by
  induction n with
  | zero => omega
  | succ n ih =>
    rw [hosts_succ, List.idxOf_append]
    by_cases e : k < n
    · rw [if_pos ((hosts_mem (by omega) (by omega)).2 e)]; exact ih e (by omega)
    · have : k = n := by omega
      subst this
      rw [if_neg (fun hm => by have := (hosts_mem (k := k) (by omega) (by omega)).1 hm; omega)]
      simp [hosts_length]

end Go.Proofs.YbulkcgomFmt
