/-
  What holds of memory at each loop's head of the check; what each step does to it, outside the walk.
-/
import Derived.Test.YbulkcgomNumber
namespace Go.Proofs.Ybulkcgom
open Go.RowKit

/-- 'number' at every name. -/
theorem number_any (w : World) (B0 Bp : Nat) (mr : Option Nat) (nv kv : Value) (d : List (List UInt8)) (a cap : Nat) (s : List UInt8) (h : PS w B0 Bp mr nv kv d) (hlen : s.length ≤ maxLen)
    (hby : Bytes w a s) (hda : d.length ≤ 1024) (htot : (total d : Int) + s.length ≤ 144115188075855872) :
    Calls Yba.prog 6 #[.pointer (some ⟨Bp, 0, none⟩), .slice (some ⟨a, 0, none⟩) s.length cap] w fun e w' => e = .returned (.int .i64 ((addName d s).idxOf s : Int)) ∧ NumPost w w' B0 Bp mr nv kv (addName d s) := by
  by_cases hs : s ∈ d
  · refine (number_hit w B0 Bp mr nv kv d a cap s h hs hlen hby).mono ?_
    rintro e w' ⟨rfl, rfl⟩
    rw [show addName d s = d by simp [addName, hs]]
    exact ⟨rfl, mr, nv, kv, h.drew, Kept.drew _ _, fun b hb => .inl hb, fun b hb => .inl hb⟩
  · refine (number_miss w B0 Bp mr nv kv d a cap s h hs hlen hby hda htot).mono ?_
    rintro e w' ⟨rfl, hp⟩
    rw [show addName d s = d ++ [s] by simp [addName, hs]]
    refine ⟨?_, hp⟩
    rw [List.idxOf_append, if_neg hs]
    simp

/-- 'len(m)', m a map, AT THE OPERATION, guarded or not. -/
theorem wpList_lenMap {P : Program} {w : World} {ops : Array Oper} {rest : List Oper} {o : Oper} {a : Act} {Q : Exit → Act → World → Prop} (hw : Region.wanted o (yielded ops a.tmps) = true) (m : Operand) (t : TypeId)
    (hop : o.op = Op.call { callee := Callee.builtin Builtin.len, args := #[m], argTypes := #[t] }) (v : Value) (hm : a.eval m = v) (n : Int) (hrun : ∀ ty, (Builtin.len_ #[t] ty #[v]).run P w = .ok (.int .i64 n) w)
    (hK : wpList P ops Q rest (a.put o.dst (.int .i64 n)) w) : wpList P ops Q (o :: rest) a w := by
  refine wpList_step fun K' hK' => ?_
  rw [if_pos hw]
  unfold Oper.wp
  simp [execOp, hop, resolve, invoke, builtin, hm, hrun, Result.andThen]
  exact hK' _ _ hK

theorem PS.lenMap {w : World} {B0 Bp : Nat} {mr : Option Nat} {nv kv : Value} {d : List (List UInt8)} (h : PS w B0 Bp mr nv kv d) (ty : TypeId) : (Builtin.len_ #[25] ty #[.map mr]).run Yba.prog w = .ok (.int .i64 (d.length : Int)) w := by
  obtain ⟨hnd, ⟨rfl, rfl, _⟩ | ⟨bm, rfl, hP⟩⟩ := h
  · exact Maps.len_nil Yba.underlying25 ty
  · have := hP.map.len Yba.underlying25 ty
    rw [numD_size d hnd] at this
    exact this

/-- The slices of bytes that the check is handed: n of them, in block Bi. -/
structure In (w : World) (B0 Bi : Nat) (ns : List (List UInt8)) (A C : Nat → Nat) : Prop where
  blk : ∃ cur, w.heap[Bi]? = some (.cells cur 24 (0, 0)) ∧ ∀ i, i < ns.length → cur[i]? = some (.slice (some ⟨A i, 0, none⟩) (ns.getD i []).length (C i))
  bytes : ∀ i, i < ns.length → B0 ≤ A i ∧ Bytes w (A i) (ns.getD i [])

theorem In.cell {w : World} {B0 Bi : Nat} {ns : List (List UInt8)} {A C : Nat → Nat} (h : In w B0 Bi ns A C) {i : Nat} (hi : i < ns.length) : w.cell? ⟨Bi, i, none⟩ = some (.slice (some ⟨A i, 0, none⟩) (ns.getD i []).length (C i)) := by
  obtain ⟨cur, hb, hc⟩ := h.blk
  simp [World.cell?, hb, hc i hi]
theorem In.of_blocks {w w' : World} {B0 Bi : Nat} {ns : List (List UInt8)} {A C : Nat → Nat} (h : In w B0 Bi ns A C) (hk : ∀ (b : Nat) (cur : Array Value) (e : TypeId) (fr : Nat × Nat), w.heap[b]? = some (.cells cur e fr) → e = 24 ∨ e = 5 → w'.heap[b]? = w.heap[b]?) : In w' B0 Bi ns A C := by
  obtain ⟨cur, hb, hc⟩ := h.blk
  refine ⟨⟨cur, (hk _ _ _ _ hb (.inl rfl)).trans hb, hc⟩, fun i hi => ?_⟩
  obtain ⟨h1, h2⟩ := h.bytes i hi
  obtain ⟨cur', fr, hb', r⟩ := h2
  exact ⟨h1, cur', fr, (hk _ _ _ _ hb' (.inr rfl)).trans hb', r⟩

/-- At every round's head of the first loop: the parser holds d, the model v holds dm. -/
def CI (w wr : World) (B0 Bp Bi : Nat) (ns : List (List UInt8)) (A C : Nat → Nat) (v : Value) (d dm : List (List UInt8)) : Prop :=
  ∃ mr nv kv, PS wr B0 Bp mr nv kv d ∧ wr.ownsRow B0 9 1 v dm.length (dm.map str) ∧ (∀ g, v.ownBlock = some g → nv.ownBlock ≠ some g) ∧ In wr B0 Bi ns A C ∧ Below B0 w wr

section
variable {w wr : World} {B0 Bp Bi : Nat} {ns : List (List UInt8)} {A C : Nat → Nat} {v : Value} {d dm : List (List UInt8)}

theorem CI.own (h : CI w wr B0 Bp Bi ns A C v d dm) : wr.ownsRow B0 9 1 v dm.length (dm.map str) := by
  obtain ⟨mr, nv, kv, _, h2, _⟩ := h
  exact h2
theorem CI.ins (h : CI w wr B0 Bp Bi ns A C v d dm) : In wr B0 Bi ns A C := by
  obtain ⟨mr, nv, kv, _, _, _, h2, _⟩ := h
  exact h2
theorem CI.lt (h : CI w wr B0 Bp Bi ns A C v d dm) : B0 < wr.heap.size := by
  obtain ⟨mr, nv, kv, hP, _⟩ := h
  exact Nat.lt_of_le_of_lt hP.base (lt_of_block hP.blk)

/-- 'model = append(model, s)'. -/
theorem CI.push {w1 : World} {o : Obj} {g c : Nat} (h : CI w wr B0 Bp Bi ns A C v d dm) (s : List UInt8)
    (hown : w1.ownsRow B0 9 1 (.slice (some ⟨g, 0, none⟩) (dm.length + 1) c) (dm.length + 1) (dm.map str ++ [str s])) (hg : (wr.alloc o).grownBy w1 v.ownBlock) (hat : v.ownBlock = some g ∨ g = wr.heap.size + 1) :
    CI w w1 B0 Bp Bi ns A C (.slice (some ⟨g, 0, none⟩) (dm.length + 1) c) d (dm ++ [s]) := by
  have hlt := h.lt
  obtain ⟨mr, nv, kv, hP, hv, hap, hI, hB⟩ := h
  have keep : ∀ b, b < wr.heap.size → v.ownBlock ≠ some b → w1.heap[b]? = wr.heap[b]? := fun b hb hne => (hg.block b (by simp; omega) (fun e => hne e.symm)).trans (Below.heap_alloc wr o b hb)
  have hne : ∀ (b : Nat) (cur : Array Value) (e : TypeId) (fr : Nat × Nat), wr.heap[b]? = some (.cells cur e fr) → e ≠ 9 → v.ownBlock ≠ some b := fun b cur e fr hb he e1 => by
    obtain ⟨_, cur', hh⟩ := own_is hv e1
    rw [hh] at hb; simp at hb
    exact he hb.2.1.symm
  have hneM : ∀ (b : Nat) (es : Array MapEntry) (cl : Nat), wr.heap[b]? = some (.map es cl) → v.ownBlock ≠ some b := fun b es cl hb e1 => by
    obtain ⟨_, cur', hh⟩ := own_is hv e1
    rw [hh] at hb; simp at hb
  have hnv : ∀ b, nv.ownBlock = some b → v.ownBlock ≠ some b := fun b hb e => hap b e hb
  refine ⟨mr, nv, kv, ?_, by simpa using hown, ?_, ?_, ?_⟩
  · obtain ⟨hnd, hh | ⟨bm, e, hPG⟩⟩ := hP
    · obtain ⟨e1, e2, e3, e4, e5, hb⟩ := hh
      exact ⟨hnd, .inl ⟨e1, e2, e3, e4, e5, (keep Bp (lt_of_block hb) (hne _ _ _ _ hb (by decide))).trans hb⟩⟩
    · refine ⟨hnd, .inr ⟨bm, e, hPG.kept fun b hb hF => keep b hb ?_⟩⟩
      rcases hF with rfl | rfl | hF | hF
      · exact hne _ _ _ _ hPG.blk (by decide)
      · obtain ⟨es, cl, hm⟩ := map_is hPG.map
        exact hneM _ _ _ hm
      · exact hnv b hF
      · obtain ⟨_, cur, hh⟩ := own_is hPG.marks hF
        exact hne _ _ _ _ hh (by decide)
  · intro b hb e
    simp [Value.ownBlock] at hb
    subst hb
    rcases hat with hat | hat
    · exact hap _ hat e
    · have := hP.names
      obtain ⟨_, cur, hh⟩ := own_is this e
      have := lt_of_block hh
      omega
  · exact hI.of_blocks fun b cur e fr hb he => keep b (lt_of_block hb) (hne _ _ _ _ hb (by rcases he with rfl | rfl <;> decide))
  · refine (hB.alloc (by omega) o).grown hg (by simp; omega) (fun b hb => ?_)
    exact (own_is hv hb).1

/-- 'p.number(b)'. -/
theorem CI.numbered {w1 : World} {d' : List (List UInt8)} {mr : Option Nat} {nv kv : Value} (h : PS wr B0 Bp mr nv kv d ∧ wr.ownsRow B0 9 1 v dm.length (dm.map str) ∧ (∀ g, v.ownBlock = some g → nv.ownBlock ≠ some g) ∧ In wr B0 Bi ns A C ∧ Below B0 w wr)
    (hn : NumPost wr w1 B0 Bp mr nv kv d') : CI w w1 B0 Bp Bi ns A C v d' dm := by
  obtain ⟨hP, hv, hap, hI, hB⟩ := h
  have hlt : B0 < wr.heap.size := Nat.lt_of_le_of_lt hP.base (lt_of_block hP.blk)
  obtain ⟨mr', nv', kv', hP', hK, _, hloc⟩ := hn
  refine ⟨mr', nv', kv', hP', ?_, ?_, ?_, ?_⟩
  · refine own_block hv fun g hg => ?_
    obtain ⟨_, cur, hh⟩ := own_is hv hg
    exact hK.block g (lt_of_block hh) (hP.not_foot hh (by decide) (by decide) (fun _ => hap g hg))
  · intro g hg e
    obtain ⟨_, cur, hh⟩ := own_is hv hg
    have := lt_of_block hh
    rcases hloc g e with e | e
    · exact hap g hg e
    · omega
  · refine hI.of_blocks fun b cur e fr hb he => hK.block b (lt_of_block hb) (hP.not_foot hb ?_ ?_ ?_)
    · rcases he with rfl | rfl <;> decide
    · rcases he with rfl | rfl <;> decide
    · intro e9; rcases he with rfl | rfl <;> simp at e9
  · exact hB.trans (hK.below (by omega) (fun b hb => hP.foot hb))

end

/-- The bytes handed in may be spoilt; nothing else has turned. -/
structure Spoilt (B0 : Nat) (w w' : World) : Prop where
  os : w'.os = w.os
  tape : w'.tape = w.tape
  output : w'.output = w.output
  size : w'.heap.size = w.heap.size
  other : ∀ (b : Nat), (∀ (cur : Array Value) (fr : Nat × Nat), w.heap[b]? ≠ some (.cells cur 5 fr)) → w'.heap[b]? = w.heap[b]?
  row : ∀ (b : Nat) (cur : Array Value) (fr : Nat × Nat), w.heap[b]? = some (.cells cur 5 fr) → ∃ cur', w'.heap[b]? = some (.cells cur' 5 fr) ∧ cur'.size = cur.size
  old : ∀ b, b < B0 → w'.heap[b]? = w.heap[b]?

theorem Spoilt.refl (B0 : Nat) (w : World) : Spoilt B0 w w := ⟨rfl, rfl, rfl, rfl, fun _ _ => rfl, fun _ cur _ h => ⟨cur, h, rfl⟩, fun _ _ => rfl⟩

theorem heap_set {w : World} {a : Nat} {cur : Array Value} {e : TypeId} {fr : Nat × Nat} (h : w.heap[a]? = some (.cells cur e fr)) (j : Nat) (u : Value) : (w.setCell ⟨a, j, none⟩ u).heap[a]? = some (.cells (cur.setIfInBounds j u) e fr) := by
  have hlt := lt_of_block h
  have h' : w.heap[a] = .cells cur e fr := by simpa [Array.getElem?_eq_getElem hlt] using h
  show (w.heap.modify a _)[a]? = _
  rw [Array.getElem?_eq_getElem (by simpa using hlt), Array.getElem_modify_self, h']
  rfl

section
variable {B0 : Nat} {w w' : World} {Bi : Nat} {ns : List (List UInt8)} {A C : Nat → Nat}

theorem Spoilt.cellBi (h : Spoilt B0 w w') (hI : In w B0 Bi ns A C) {i : Nat} (hi : i < ns.length) : w'.cell? ⟨Bi, i, none⟩ = some (.slice (some ⟨A i, 0, none⟩) (ns.getD i []).length (C i)) := by
  rw [← hI.cell hi]
  apply World.cell?_of_block
  apply h.other
  intro cur fr e
  obtain ⟨cur', hb, _⟩ := hI.blk
  rw [hb] at e; simp at e

theorem Spoilt.byte (h : Spoilt B0 w w') (hI : In w B0 Bi ns A C) {i j : Nat} (hi : i < ns.length) (hj : j < (ns.getD i []).length) : (∃ u, w'.cell? ⟨A i, j, none⟩ = some u) ∧ w'.frozen? ⟨A i, j, none⟩ = false := by
  obtain ⟨_, cur, fr, hb, hc, hf⟩ := hI.bytes i hi
  obtain ⟨cur', hb', hs⟩ := h.row _ _ _ hb
  have hlt : j < cur'.size := by
    have := hc j hj
    have := (Array.getElem?_eq_some_iff.1 this).1
    omega
  refine ⟨⟨cur'[j], ?_⟩, ?_⟩
  · simp [World.cell?, hb', hlt]
  · simp only [World.frozen?, hb']
    exact hf j hj

theorem Spoilt.set (h : Spoilt B0 w w') (hI : In w B0 Bi ns A C) {i : Nat} (hi : i < ns.length) (j : Nat) (u : Value) : Spoilt B0 w (w'.setCell ⟨A i, j, none⟩ u) := by
  obtain ⟨hB, cur, fr, hb, hc, hf⟩ := hI.bytes i hi
  refine ⟨h.os, h.tape, h.output, by simpa using h.size, fun b hne => ?_, fun b cur1 fr1 hb1 => ?_, fun b hlt => ?_⟩
  · have hbA : b ≠ A i := fun e => hne cur fr (e ▸ hb)
    rw [Below.heap_setCell _ _ _ _ hbA]
    exact h.other b hne
  · obtain ⟨cur', hb', hs⟩ := h.row _ _ _ hb1
    by_cases e : b = A i
    · subst e
      exact ⟨_, heap_set hb' j u, by simpa using hs⟩
    · exact ⟨cur', by rw [Below.heap_setCell _ _ _ _ e]; exact hb', hs⟩
  · have hbA : b ≠ A i := by omega
    rw [Below.heap_setCell _ _ _ _ hbA]
    exact h.old b hlt

/-- Behind the spoiling the parser and the model stand as they stood. -/
theorem CI.spoilt {w0 : World} {Bp : Nat} {v : Value} {d dm : List (List UInt8)} (h : CI w0 w B0 Bp Bi ns A C v d dm) (hs : Spoilt B0 w w') :
    (∃ mr nv kv, PS w' B0 Bp mr nv kv d) ∧ w'.ownsRow B0 9 1 v dm.length (dm.map str) ∧ Below B0 w0 w' := by
  obtain ⟨mr, nv, kv, hP, hv, hap, hI, hB⟩ := h
  have keep : ∀ (b : Nat) (cur : Array Value) (e : TypeId) (fr : Nat × Nat), w.heap[b]? = some (.cells cur e fr) → e ≠ 5 → w'.heap[b]? = w.heap[b]? := fun b cur e fr hb he => hs.other b (fun cur' fr' hb' => by rw [hb] at hb'; simp at hb'; exact he hb'.2.1)
  refine ⟨⟨mr, nv, kv, ?_⟩, ?_, hB.trans ⟨hs.os, hs.tape, hs.output, by have := hs.size; omega, hs.old⟩⟩
  · obtain ⟨hnd, hh | ⟨bm, e, hPG⟩⟩ := hP
    · obtain ⟨e1, e2, e3, e4, e5, hb⟩ := hh
      exact ⟨hnd, .inl ⟨e1, e2, e3, e4, e5, (keep _ _ _ _ hb (by decide)).trans hb⟩⟩
    · refine ⟨hnd, .inr ⟨bm, e, hPG.kept fun b hb hF => ?_⟩⟩
      rcases hF with rfl | rfl | hF | hF
      · exact keep _ _ _ _ hPG.blk (by decide)
      · obtain ⟨es, cl, hm⟩ := map_is hPG.map
        exact hs.other _ (fun cur' fr' hb' => by rw [hm] at hb'; simp at hb')
      · obtain ⟨_, cur, hh⟩ := own_is hPG.names hF
        exact keep _ _ _ _ hh (by decide)
      · obtain ⟨_, cur, hh⟩ := own_is hPG.marks hF
        exact keep _ _ _ _ hh (by decide)
  · refine own_block hv fun g hg => ?_
    obtain ⟨_, cur, hh⟩ := own_is hv hg
    exact keep _ _ _ _ hh (by decide)
end
end Go.Proofs.Ybulkcgom
