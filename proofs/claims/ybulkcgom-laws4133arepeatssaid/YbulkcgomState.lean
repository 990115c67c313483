/-
  The parser's own memory ('PG'), and what each step of 'number' does to it, outside the walk.
-/
import Derived.Test.YbulkcgomBase
import Derived.Deep.AppendLies
namespace Go.Proofs.Ybulkcgom
open Go.RowKit

/-! ### worlds, block by block -/
/-- w' is w but for the blocks of F and new ones. -/
structure Kept (w w' : World) (F : Nat → Prop) : Prop where
  os : w'.os = w.os
  tape : w'.tape = w.tape
  output : w'.output = w.output
  size : w.heap.size ≤ w'.heap.size
  block : ∀ b, b < w.heap.size → ¬ F b → w'.heap[b]? = w.heap[b]?

theorem Kept.refl (w : World) (F : Nat → Prop) : Kept w w F := ⟨rfl, rfl, rfl, Nat.le_refl _, fun _ _ _ => rfl⟩
theorem Kept.trans {a b c : World} {F G : Nat → Prop} (h : Kept a b F) (k : Kept b c G) (hG : ∀ x, x < a.heap.size → G x → F x) : Kept a c F :=
  ⟨k.os.trans h.os, k.tape.trans h.tape, k.output.trans h.output, Nat.le_trans h.size k.size, fun x hx hF => (k.block x (Nat.lt_of_lt_of_le hx h.size) (fun g => hF (hG x hx g))).trans (h.block x hx hF)⟩
theorem Kept.drew (w : World) (F : Nat → Prop) : Kept w w.drew F := ⟨rfl, rfl, rfl, Nat.le_refl _, fun _ _ _ => rfl⟩
theorem Kept.alloc (w : World) (o : Obj) (F : Nat → Prop) : Kept w (w.alloc o) F := ⟨rfl, rfl, rfl, by simp, fun b hb _ => Below.heap_alloc w o b hb⟩
theorem Kept.setCell (w : World) (a : Addr) (v : Value) (F : Nat → Prop) (h : F a.block) : Kept w (w.setCell a v) F :=
  ⟨rfl, rfl, rfl, by simp, fun b _ hF => Below.heap_setCell w a v b (fun e => hF (e ▸ h))⟩
theorem Kept.grown {w w' : World} {row : Option Nat} (h : w.grownBy w' row) (F : Nat → Prop) (hF : ∀ b, row = some b → F b) : Kept w w' F :=
  ⟨h.os, h.tape, h.output, h.size, fun b hb hn => h.block b hb (fun e => hn (hF b e.symm))⟩
theorem Kept.below {w w' : World} {F : Nat → Prop} {B : Nat} (h : Kept w w' F) (hB : B ≤ w.heap.size) (hF : ∀ b, F b → B ≤ b) : Below B w w' :=
  ⟨h.os, h.tape, h.output, h.size, fun b hb => h.block b (by omega) (fun f => by have := hF b f; omega)⟩

theorem own_shape {w : World} {base e size : Nat} {v : Value} {n : Nat} {xs : List Value} (h : w.ownsRow base e size v n xs) : ∃ ao cap, v = .slice ao n cap := by
  rcases h.2 with ⟨rfl, rfl⟩ | ⟨g, cap, cur, rfl, _⟩
  · exact ⟨none, 0, rfl⟩
  · exact ⟨_, _, rfl⟩
theorem own_block {w w' : World} {base e size : Nat} {v : Value} {n : Nat} {xs : List Value} (h : w.ownsRow base e size v n xs) (hb : ∀ g, v.ownBlock = some g → w'.heap[g]? = w.heap[g]?) : w'.ownsRow base e size v n xs := by
  refine ⟨h.1, ?_⟩
  rcases h.2 with hn | ⟨g, cap, cur, rfl, hbg, hg, rest⟩
  · exact .inl hn
  · exact .inr ⟨g, cap, cur, rfl, hbg, (hb g rfl).trans hg, rest⟩
/-- Of what make the block is that a slice owns. -/
theorem own_is {w : World} {base e size : Nat} {v : Value} {n : Nat} {xs : List Value} (h : w.ownsRow base e size v n xs) {g : Nat} (hg : v.ownBlock = some g) : base ≤ g ∧ ∃ cur, w.heap[g]? = some (.cells cur e (0, 0)) := by
  rcases h.2 with ⟨rfl, _⟩ | ⟨g', cap, cur, rfl, hbg, hh, _⟩
  · simp [Value.ownBlock] at hg
  · simp [Value.ownBlock] at hg; subst hg; exact ⟨hbg, cur, hh⟩
theorem map_block {H : Type} {w w' : World} {P : Program} {k : TypeId} {R : Value → Option (DataW H × List MemPlace)} {b n : Nat} {D : DataW H} (h : w.ownsMap P k R b n D) (hb : w'.heap[b]? = w.heap[b]?) : w'.ownsMap P k R b n D := by
  obtain ⟨es, clock, hh, r⟩ := h
  exact ⟨es, clock, hb.trans hh, r⟩
theorem map_is {H : Type} {w : World} {P : Program} {k : TypeId} {R : Value → Option (DataW H × List MemPlace)} {b n : Nat} {D : DataW H} (h : w.ownsMap P k R b n D) : ∃ es clock, w.heap[b]? = some (.map es clock) := by
  obtain ⟨es, clock, hh, _⟩ := h
  exact ⟨es, clock, hh⟩

/-! ### the parser -/
def prow (mv nv kv : Value) (tot : Int) : Array Value := #[mv, nv, kv, .int .i64 0, .slice none 0 0, .slice none 0 0, .int .i64 tot, .slice none 0 0]

/-- The parser at block Bp: bm: its map's block; its names dn, k marks, the names dm in its map. -/
structure PG (w : World) (B0 Bp bm : Nat) (nv kv : Value) (dn : List (List UInt8)) (k : Nat) (dm : List (List UInt8)) (tot : Int) : Prop where
  base : B0 ≤ Bp
  mbase : B0 ≤ bm
  blk : w.heap[Bp]? = some (.cells (prow (.map (some bm)) nv kv tot) 29 (0, 0))
  names : w.ownsRow B0 9 1 nv dn.length (dn.map str)
  marks : w.ownsRow B0 3 1 kv k (List.replicate k (.int .i64 0))
  map : w.ownsMap Yba.prog 9 (plainElem Yba.prog 3) bm dm.length (numD dm)

/-- The blocks that the parser's slices, map and struct lie in. -/
def Foot (Bp bm : Nat) (nv kv : Value) (b : Nat) : Prop := b = Bp ∨ b = bm ∨ nv.ownBlock = some b ∨ kv.ownBlock = some b

section
variable {w : World} {B0 Bp bm : Nat} {nv kv : Value} {dn dm : List (List UInt8)} {k : Nat} {tot : Int}

theorem PG.lt (h : PG w B0 Bp bm nv kv dn k dm tot) : Bp < w.heap.size := lt_of_block h.blk
theorem PG.cell (h : PG w B0 Bp bm nv kv dn k dm tot) (j : Nat) (v : Value) (hv : (prow (.map (some bm)) nv kv tot)[j]? = some v) : w.cell? ⟨Bp, j, none⟩ = some v := by
  simp [World.cell?, h.blk, hv]
theorem PG.free (h : PG w B0 Bp bm nv kv dn k dm tot) (j : Nat) : w.frozen? ⟨Bp, j, none⟩ = false := by
  simp [World.frozen?, h.blk]
theorem PG.names_ne (h : PG w B0 Bp bm nv kv dn k dm tot) {g : Nat} (hg : nv.ownBlock = some g) : g ≠ Bp ∧ g ≠ bm ∧ kv.ownBlock ≠ some g ∧ B0 ≤ g ∧ g < w.heap.size := by
  obtain ⟨hb, cur, hh⟩ := own_is h.names hg
  obtain ⟨es, cl, hm⟩ := map_is h.map
  refine ⟨fun e => ?_, fun e => ?_, fun e => ?_, hb, lt_of_block hh⟩
  · subst e; rw [h.blk] at hh; simp at hh
  · subst e; rw [hm] at hh; simp at hh
  · obtain ⟨_, cur', hh'⟩ := own_is h.marks e
    rw [hh'] at hh; simp at hh
theorem PG.marks_ne (h : PG w B0 Bp bm nv kv dn k dm tot) {g : Nat} (hg : kv.ownBlock = some g) : g ≠ Bp ∧ g ≠ bm ∧ nv.ownBlock ≠ some g ∧ B0 ≤ g ∧ g < w.heap.size := by
  obtain ⟨hb, cur, hh⟩ := own_is h.marks hg
  obtain ⟨es, cl, hm⟩ := map_is h.map
  refine ⟨fun e => ?_, fun e => ?_, fun e => ?_, hb, lt_of_block hh⟩
  · subst e; rw [h.blk] at hh; simp at hh
  · subst e; rw [hm] at hh; simp at hh
  · obtain ⟨_, cur', hh'⟩ := own_is h.names e
    rw [hh'] at hh; simp at hh
theorem PG.map_ne (h : PG w B0 Bp bm nv kv dn k dm tot) : bm ≠ Bp := fun e => by
  obtain ⟨es, cl, hm⟩ := map_is h.map
  subst e; rw [h.blk] at hm; simp at hm
theorem PG.foot (h : PG w B0 Bp bm nv kv dn k dm tot) {b : Nat} (hb : Foot Bp bm nv kv b) : B0 ≤ b := by
  rcases hb with rfl | rfl | hb | hb
  · exact h.base
  · exact h.mbase
  · exact (h.names_ne hb).2.2.2.1
  · exact (h.marks_ne hb).2.2.2.1

theorem PG.drew (h : PG w B0 Bp bm nv kv dn k dm tot) : PG w.drew B0 Bp bm nv kv dn k dm tot := ⟨h.base, h.mbase, h.blk, h.names, h.marks, h.map⟩

/-- Nothing of the parser's has turned. -/
theorem PG.kept {w' : World} (h : PG w B0 Bp bm nv kv dn k dm tot) (hk : ∀ b, b < w.heap.size → Foot Bp bm nv kv b → w'.heap[b]? = w.heap[b]?) : PG w' B0 Bp bm nv kv dn k dm tot :=
  ⟨h.base, h.mbase, (hk Bp h.lt (.inl rfl)).trans h.blk, own_block h.names fun g hg => hk g (h.names_ne hg).2.2.2.2 (.inr (.inr (.inl hg))), own_block h.marks fun g hg => hk g (h.marks_ne hg).2.2.2.2 (.inr (.inr (.inr hg))),
   map_block h.map (hk bm h.map.lt (.inr (.inl rfl)))⟩

theorem PG.alloc (h : PG w B0 Bp bm nv kv dn k dm tot) (o : Obj) : PG (w.alloc o) B0 Bp bm nv kv dn k dm tot := h.kept fun b hb _ => Below.heap_alloc w o b hb

/-- 'p.names = append(p.names, string(name))'. -/
theorem PG.push_name {w1 : World} (h : PG w B0 Bp bm nv kv dn k dm tot) (s : List UInt8) {g c : Nat}
    (hown : w1.ownsRow B0 9 1 (.slice (some ⟨g, 0, none⟩) (dn.length + 1) c) (dn.length + 1) (dn.map str ++ [str s])) (hg : w.grownBy w1 nv.ownBlock) (hat : nv.ownBlock = some g ∨ w.heap.size ≤ g) :
    PG (w1.setCell ⟨Bp, 1, none⟩ (.slice (some ⟨g, 0, none⟩) (dn.length + 1) c)) B0 Bp bm (.slice (some ⟨g, 0, none⟩) (dn.length + 1) c) kv (dn ++ [s]) k dm tot ∧
    Kept w (w1.setCell ⟨Bp, 1, none⟩ (.slice (some ⟨g, 0, none⟩) (dn.length + 1) c)) (Foot Bp bm nv kv) := by
  have keep : ∀ b, b < w.heap.size → nv.ownBlock ≠ some b → w1.heap[b]? = w.heap[b]? := fun b hb hne => hg.block b hb (fun e => hne e.symm)
  have hBn : nv.ownBlock ≠ some Bp := fun e => (h.names_ne e).1 rfl
  have hblk1 := (keep Bp h.lt hBn).trans h.blk
  have hgB : g ≠ Bp := by
    rcases hat with e | e
    · exact (h.names_ne e).1
    · have := h.lt; omega
  refine ⟨⟨h.base, h.mbase, ?_, ?_, ?_, ?_⟩, ?_⟩
  · rw [heap_setCell_same w1 Bp 1 _ 29 _ hblk1]; rfl
  · have := ownsRow_setCell_other hown (a := ⟨Bp, 1, none⟩) (by simpa [Value.ownBlock] using hgB) (.slice (some ⟨g, 0, none⟩) (dn.length + 1) c)
    simpa [numD_nil] using this
  · refine own_block h.marks fun b hb => ?_
    have hm := h.marks_ne hb
    rw [Below.heap_setCell _ _ _ _ hm.1]
    exact keep b hm.2.2.2.2 hm.2.2.1
  · refine map_block h.map ?_
    rw [Below.heap_setCell _ _ _ _ h.map_ne]
    exact keep bm h.map.lt (fun e => (h.names_ne e).2.1 rfl)
  · exact (Kept.grown hg (Foot Bp bm nv kv) (fun b hb => .inr (.inr (.inl hb)))).trans (Kept.setCell w1 ⟨Bp, 1, none⟩ _ (Foot Bp bm nv kv) (.inl rfl)) (fun _ _ h => h)

/-- 'p.marks = append(p.marks, 0)'. -/
theorem PG.push_mark {w1 : World} (h : PG w B0 Bp bm nv kv dn k dm tot) {g c : Nat}
    (hown : w1.ownsRow B0 3 1 (.slice (some ⟨g, 0, none⟩) (k + 1) c) (k + 1) (List.replicate k (.int .i64 0) ++ [.int .i64 0])) (hg : w.grownBy w1 kv.ownBlock) (hat : kv.ownBlock = some g ∨ w.heap.size ≤ g) :
    PG (w1.setCell ⟨Bp, 2, none⟩ (.slice (some ⟨g, 0, none⟩) (k + 1) c)) B0 Bp bm nv (.slice (some ⟨g, 0, none⟩) (k + 1) c) dn (k + 1) dm tot ∧
    Kept w (w1.setCell ⟨Bp, 2, none⟩ (.slice (some ⟨g, 0, none⟩) (k + 1) c)) (Foot Bp bm nv kv) := by
  have keep : ∀ b, b < w.heap.size → kv.ownBlock ≠ some b → w1.heap[b]? = w.heap[b]? := fun b hb hne => hg.block b hb (fun e => hne e.symm)
  have hBn : kv.ownBlock ≠ some Bp := fun e => (h.marks_ne e).1 rfl
  have hblk1 := (keep Bp h.lt hBn).trans h.blk
  have hgB : g ≠ Bp := by
    rcases hat with e | e
    · exact (h.marks_ne e).1
    · have := h.lt; omega
  refine ⟨⟨h.base, h.mbase, ?_, ?_, ?_, ?_⟩, ?_⟩
  · rw [heap_setCell_same w1 Bp 2 _ 29 _ hblk1]; rfl
  · refine own_block h.names fun b hb => ?_
    have hm := h.names_ne hb
    rw [Below.heap_setCell _ _ _ _ hm.1]
    exact keep b hm.2.2.2.2 hm.2.2.1
  · have := ownsRow_setCell_other hown (a := ⟨Bp, 2, none⟩) (by simpa [Value.ownBlock] using hgB) (.slice (some ⟨g, 0, none⟩) (k + 1) c)
    rw [List.replicate_succ']; exact this
  · refine map_block h.map ?_
    rw [Below.heap_setCell _ _ _ _ h.map_ne]
    exact keep bm h.map.lt (fun e => (h.marks_ne e).2.1 rfl)
  · exact (Kept.grown hg (Foot Bp bm nv kv) (fun b hb => .inr (.inr (.inr hb)))).trans (Kept.setCell w1 ⟨Bp, 2, none⟩ _ (Foot Bp bm nv kv) (.inl rfl)) (fun _ _ h => h)

/-- What a step of 'number' leaves alone: 'Kept' off the parser's own blocks, and each slice of hers lies where it lay or in a new block. -/
def Step (w w' : World) (Bp bm : Nat) (nv kv nv' kv' : Value) : Prop :=
  Kept w w' (Foot Bp bm nv kv) ∧ (∀ b, nv'.ownBlock = some b → nv.ownBlock = some b ∨ w.heap.size ≤ b) ∧ ∀ b, kv'.ownBlock = some b → kv.ownBlock = some b ∨ w.heap.size ≤ b

theorem name_step {w1 : World} (h : PG w B0 Bp bm nv kv dn k dm tot) (s : List UInt8) {g c : Nat} {o : Obj}
    (hown : w1.ownsRow B0 9 1 (.slice (some ⟨g, 0, none⟩) (dn.length + 1) c) (dn.length + 1) (dn.map str ++ [str s])) (hg : ((w.alloc o).drew).grownBy w1 nv.ownBlock) (hat : nv.ownBlock = some g ∨ g = w.heap.size + 1) :
    ∃ nv', PG (w1.setCell ⟨Bp, 1, none⟩ (.slice (some ⟨g, 0, none⟩) (dn.length + 1) c)) B0 Bp bm nv' kv (dn ++ [s]) k dm tot ∧ Step w (w1.setCell ⟨Bp, 1, none⟩ (.slice (some ⟨g, 0, none⟩) (dn.length + 1) c)) Bp bm nv kv nv' kv := by
  obtain ⟨h1, h2⟩ := ((h.alloc o).drew).push_name s hown hg (hat.elim Or.inl (fun e => Or.inr (by simp; omega)))
  refine ⟨_, h1, ((Kept.alloc w o _).trans (Kept.drew _ (Foot Bp bm nv kv)) (fun _ _ h => h)).trans h2 (fun _ _ h => h), fun b hb => ?_, fun b hb => .inl hb⟩
  simp [Value.ownBlock] at hb
  subst hb
  exact hat.elim Or.inl (fun e => Or.inr (by omega))

theorem mark_step {w1 : World} (h : PG w B0 Bp bm nv kv dn k dm tot) {g c : Nat} {o : Obj}
    (hown : w1.ownsRow B0 3 1 (.slice (some ⟨g, 0, none⟩) (k + 1) c) (k + 1) (List.replicate k (.int .i64 0) ++ [.int .i64 0])) (hg : (w.alloc o).grownBy w1 kv.ownBlock) (hat : kv.ownBlock = some g ∨ g = w.heap.size + 1) :
    ∃ kv', PG (w1.setCell ⟨Bp, 2, none⟩ (.slice (some ⟨g, 0, none⟩) (k + 1) c)) B0 Bp bm nv kv' dn (k + 1) dm tot ∧ Step w (w1.setCell ⟨Bp, 2, none⟩ (.slice (some ⟨g, 0, none⟩) (k + 1) c)) Bp bm nv kv nv kv' := by
  obtain ⟨h1, h2⟩ := (h.alloc o).push_mark hown hg (hat.elim Or.inl (fun e => Or.inr (by simp; omega)))
  refine ⟨_, h1, (Kept.alloc w o _).trans h2 (fun _ _ h => h), fun b hb => .inl hb, fun b hb => ?_⟩
  simp [Value.ownBlock] at hb
  subst hb
  exact hat.elim Or.inl (fun e => Or.inr (by omega))

theorem Step.trans {a b c : World} {nv1 kv1 nv2 kv2 : Value} (h : Step a b Bp bm nv kv nv1 kv1) (k : Step b c Bp bm nv1 kv1 nv2 kv2) : Step a c Bp bm nv kv nv2 kv2 := by
  have hs := h.1.size
  refine ⟨h.1.trans k.1 ?_, fun x hx => ?_, fun x hx => ?_⟩
  · rintro x hx (e | e | e | e)
    · exact .inl e
    · exact .inr (.inl e)
    · rcases h.2.1 x e with e | e
      · exact .inr (.inr (.inl e))
      · omega
    · rcases h.2.2 x e with e | e
      · exact .inr (.inr (.inr e))
      · omega
  · rcases k.2.1 x hx with e | e
    · exact h.2.1 x e
    · exact .inr (by omega)
  · rcases k.2.2 x hx with e | e
    · exact h.2.2 x e
    · exact .inr (by omega)
theorem Step.of_kept {w' : World} (h : Kept w w' (Foot Bp bm nv kv)) : Step w w' Bp bm nv kv nv kv := ⟨h, fun _ hb => .inl hb, fun _ hb => .inl hb⟩

/-- 'p.size += ..'. -/
theorem PG.set_size (h : PG w B0 Bp bm nv kv dn k dm tot) (t : Int) :
    PG (w.setCell ⟨Bp, 6, none⟩ (.int .i64 t)) B0 Bp bm nv kv dn k dm t ∧ Kept w (w.setCell ⟨Bp, 6, none⟩ (.int .i64 t)) (Foot Bp bm nv kv) := by
  refine ⟨⟨h.base, h.mbase, ?_, ?_, ?_, ?_⟩, Kept.setCell _ _ _ _ (.inl rfl)⟩
  · rw [heap_setCell_same w Bp 6 _ 29 _ h.blk]; rfl
  · exact own_block h.names fun b hb => Below.heap_setCell _ _ _ _ (h.names_ne hb).1
  · exact own_block h.marks fun b hb => Below.heap_setCell _ _ _ _ (h.marks_ne hb).1
  · exact map_block h.map (Below.heap_setCell _ _ _ _ h.map_ne)

/-- 'p.numbers[..] = n'. -/
theorem PG.put {w1 : World} (h : PG w B0 Bp bm nv kv dn k dm tot) (s : List UInt8) (hm : w1.ownsMap Yba.prog 9 (plainElem Yba.prog 3) bm (dm.length + 1) ((numD dm).put (.string s) (.lit (.int .i64 (dm.length : Int))))) (hg : w.grownBy w1 (some bm)) :
    PG w1 B0 Bp bm nv kv dn k (dm ++ [s]) tot ∧ Kept w w1 (Foot Bp bm nv kv) := by
  have keep : ∀ b, b < w.heap.size → b ≠ bm → w1.heap[b]? = w.heap[b]? := fun b hb hne => hg.block b hb (fun e => hne (Option.some.inj e))
  refine ⟨⟨h.base, h.mbase, (keep Bp h.lt (fun e => h.map_ne e.symm)).trans h.blk, ?_, ?_, ?_⟩, Kept.grown hg _ (fun b hb => .inr (.inl (Option.some.inj hb).symm))⟩
  · exact own_block h.names fun b hb => keep b (h.names_ne hb).2.2.2.2 (h.names_ne hb).2.1
  · exact own_block h.marks fun b hb => keep b (h.marks_ne hb).2.2.2.2 (h.marks_ne hb).2.1
  · rw [numD_snoc]; simpa using hm

end

/-- The parser as it stands between two calls: before the first name it has no map. -/
def PS (w : World) (B0 Bp : Nat) (mr : Option Nat) (nv kv : Value) (d : List (List UInt8)) : Prop :=
  d.Nodup ∧ ((mr = none ∧ d = [] ∧ nv = .slice none 0 0 ∧ kv = .slice none 0 0 ∧ B0 ≤ Bp ∧ w.heap[Bp]? = some (.cells (prow (.map none) (.slice none 0 0) (.slice none 0 0) 0) 29 (0, 0))) ∨
    ∃ bm, mr = some bm ∧ PG w B0 Bp bm nv kv d d.length d (total d : Int))

/-- 'p.numbers = map[string]int{}' (the walk writes the store ahead of the new block). -/
theorem PG.made {w : World} {B0 Bp : Nat} (hB : B0 ≤ Bp) (h : w.heap[Bp]? = some (.cells (prow (.map none) (.slice none 0 0) (.slice none 0 0) 0) 29 (0, 0))) :
    PG ((w.setCell ⟨Bp, 0, none⟩ (.map (some w.heap.size))).alloc (.map #[] 0)) B0 Bp w.heap.size (.slice none 0 0) (.slice none 0 0) [] 0 [] 0 ∧
    Kept w ((w.setCell ⟨Bp, 0, none⟩ (.map (some w.heap.size))).alloc (.map #[] 0)) (fun b => b = Bp) := by
  have hlt := lt_of_block h
  refine ⟨⟨hB, by omega, ?_, World.ownsRow_nil _ _ _ _, World.ownsRow_nil _ _ _ _, ?_⟩, (Kept.setCell w ⟨Bp, 0, none⟩ _ (fun b => b = Bp) rfl).trans (Kept.alloc _ _ _) (fun _ _ h => h)⟩
  · rw [Below.heap_alloc _ _ _ (by simpa using hlt), heap_setCell_same _ Bp 0 _ 29 _ h]; rfl
  · have := World.ownsMap_made (w.setCell ⟨Bp, 0, none⟩ (.map (some w.heap.size))) Yba.prog 9 (plainElem (H := Unit) Yba.prog 3)
    simpa [numD_nil] using this

/-- The blocks that the parser's slices, map and struct lie in, between two calls. -/
def FootS (Bp : Nat) (mr : Option Nat) (nv kv : Value) (b : Nat) : Prop := b = Bp ∨ mr = some b ∨ nv.ownBlock = some b ∨ kv.ownBlock = some b

/-- Block a is a row of bytes that begins with s, and s's cells may be written. -/
def Bytes (w : World) (a : Nat) (s : List UInt8) : Prop :=
  ∃ cur fr, w.heap[a]? = some (.cells cur 5 fr) ∧ (∀ j (hj : j < s.length), cur[j]? = some (.int .u8 (s[j].toNat : Int))) ∧ ∀ j, j < s.length → (decide (fr.1 ≤ j) && decide (j < fr.2)) = false

theorem Bytes.cell {w : World} {a : Nat} {s : List UInt8} (h : Bytes w a s) : ∀ j (hj : j < s.length), w.cell? ((⟨a, 0, none⟩ : Addr).add j) = some (.int .u8 (s[j].toNat : Int)) := by
  obtain ⟨cur, fr, hb, hc, _⟩ := h
  intro j hj
  rw [Addr.add_lit, Nat.zero_add]
  simp [World.cell?, hb, hc j hj]
theorem Bytes.of_block {w w' : World} {a : Nat} {s : List UInt8} (h : Bytes w a s) (hb : w'.heap[a]? = w.heap[a]?) : Bytes w' a s := by
  obtain ⟨cur, fr, hh, r⟩ := h
  exact ⟨cur, fr, hb.trans hh, r⟩
theorem Bytes.lt {w : World} {a : Nat} {s : List UInt8} (h : Bytes w a s) : a < w.heap.size := by
  obtain ⟨cur, fr, hb, _⟩ := h
  exact lt_of_block hb

theorem PS.blk {w : World} {B0 Bp : Nat} {mr : Option Nat} {nv kv : Value} {d : List (List UInt8)} (h : PS w B0 Bp mr nv kv d) : w.heap[Bp]? = some (.cells (prow (.map mr) nv kv (total d : Int)) 29 (0, 0)) := by
  obtain ⟨hnd, ⟨rfl, rfl, rfl, rfl, _, hb⟩ | ⟨bm, rfl, hP⟩⟩ := h
  · exact hb
  · exact hP.blk
theorem PS.drew {w : World} {B0 Bp : Nat} {mr : Option Nat} {nv kv : Value} {d : List (List UInt8)} (h : PS w B0 Bp mr nv kv d) : PS w.drew B0 Bp mr nv kv d := by
  obtain ⟨hnd, hh | ⟨bm, e, hP⟩⟩ := h
  · exact ⟨hnd, .inl hh⟩
  · exact ⟨hnd, .inr ⟨bm, e, hP.drew⟩⟩
theorem PS.base {w : World} {B0 Bp : Nat} {mr : Option Nat} {nv kv : Value} {d : List (List UInt8)} (h : PS w B0 Bp mr nv kv d) : B0 ≤ Bp := by
  obtain ⟨hnd, ⟨_, _, _, _, hb, _⟩ | ⟨bm, rfl, hP⟩⟩ := h
  · exact hb
  · exact hP.base
theorem PS.names {w : World} {B0 Bp : Nat} {mr : Option Nat} {nv kv : Value} {d : List (List UInt8)} (h : PS w B0 Bp mr nv kv d) : w.ownsRow B0 9 1 nv d.length (d.map str) := by
  obtain ⟨hnd, ⟨rfl, rfl, rfl, rfl, _, _⟩ | ⟨bm, rfl, hP⟩⟩ := h
  · exact World.ownsRow_nil _ _ _ _
  · exact hP.names
theorem PS.marks {w : World} {B0 Bp : Nat} {mr : Option Nat} {nv kv : Value} {d : List (List UInt8)} (h : PS w B0 Bp mr nv kv d) : w.ownsRow B0 3 1 kv d.length (List.replicate d.length (.int .i64 0)) := by
  obtain ⟨hnd, ⟨rfl, rfl, rfl, rfl, _, _⟩ | ⟨bm, rfl, hP⟩⟩ := h
  · exact World.ownsRow_nil _ _ _ _
  · exact hP.marks
/-- A block of another make is none of the parser's. -/
theorem PS.not_foot {w : World} {B0 Bp : Nat} {mr : Option Nat} {nv kv : Value} {d : List (List UInt8)} (h : PS w B0 Bp mr nv kv d) {b : Nat} {cur : Array Value} {e : TypeId} {fr : Nat × Nat} (hb : w.heap[b]? = some (.cells cur e fr))
    (h29 : e ≠ 29) (h3 : e ≠ 3) (h9 : e = 9 → nv.ownBlock ≠ some b) : ¬ FootS Bp mr nv kv b := by
  rintro (rfl | e1 | e1 | e1)
  · rw [h.blk] at hb; simp at hb; exact h29 hb.2.1.symm
  · obtain ⟨hnd, ⟨rfl, _⟩ | ⟨bm, rfl, hP⟩⟩ := h
    · simp at e1
    · simp at e1; subst e1
      obtain ⟨es, cl, hm⟩ := map_is hP.map
      rw [hm] at hb; simp at hb
  · obtain ⟨_, cur', hh⟩ := own_is h.names e1
    rw [hh] at hb; simp at hb
    exact h9 hb.2.1.symm e1
  · obtain ⟨_, cur', hh⟩ := own_is h.marks e1
    rw [hh] at hb; simp at hb
    exact h3 hb.2.1.symm
theorem PS.bytes_far {w : World} {B0 Bp : Nat} {mr : Option Nat} {nv kv : Value} {d : List (List UInt8)} (h : PS w B0 Bp mr nv kv d) {a : Nat} {s : List UInt8} (hs : Bytes w a s) : ¬ FootS Bp mr nv kv a := by
  obtain ⟨cur, fr, hb, _⟩ := hs
  exact h.not_foot hb (by decide) (by decide) (fun e => absurd e (by decide))
theorem PS.foot {w : World} {B0 Bp : Nat} {mr : Option Nat} {nv kv : Value} {d : List (List UInt8)} (h : PS w B0 Bp mr nv kv d) {b : Nat} (hb : FootS Bp mr nv kv b) : B0 ≤ b := by
  rcases hb with rfl | e | e | e
  · exact h.base
  · obtain ⟨hnd, ⟨rfl, _⟩ | ⟨bm, rfl, hP⟩⟩ := h
    · simp at e
    · simp at e; subst e; exact hP.mbase
  · exact (own_is h.names e).1
  · exact (own_is h.marks e).1

end Go.Proofs.Ybulkcgom
