/-
  The laws' own loop: the slice of slices that they fill and hand to the check.
-/
import Derived.Test.YbulkcgomCheck
namespace Go.Proofs.Ybulkcgom
open Go.RowKit

/-- k of the n slices are laid. -/
structure Fill (w wr : World) (ns : List (List UInt8)) (n k : Nat) (A C : Nat → Nat) : Prop where
  below : Below w.heap.size w wr
  blk : ∃ cur, wr.heap[w.heap.size]? = some (.cells cur 24 (0, 0)) ∧ cur.size = n ∧ ∀ i, i < k → cur[i]? = some (.slice (some ⟨A i, 0, none⟩) (ns.getD i []).length (C i))
  bytes : ∀ i, i < k → w.heap.size < A i ∧ Bytes wr (A i) (ns.getD i [])

theorem Fill.cell {w wr : World} {ns : List (List UInt8)} {n k : Nat} {A C : Nat → Nat} (h : Fill w wr ns n k A C) (hk : k < n) : (∃ u, wr.cell? ⟨w.heap.size, k, none⟩ = some u) ∧ wr.frozen? ⟨w.heap.size, k, none⟩ = false ∧ w.heap.size < wr.heap.size := by
  obtain ⟨cur, hb, hs, _⟩ := h.blk
  have hlt : k < cur.size := by omega
  exact ⟨⟨cur[k], by simp [World.cell?, hb, hlt]⟩, by simp [World.frozen?, hb], lt_of_block hb⟩

theorem Fill.step {w wr w1 : World} {ns : List (List UInt8)} {n k : Nat} {A C : Nat → Nat} (h : Fill w wr ns n k A C) (hk : k < n) {s : List UInt8} (hs : ns.getD k [] = s) {a c : Nat} (hK : Kept wr w1 (fun b => b = w.heap.size))
    (hblk : ∀ cur : Array Value, wr.heap[w.heap.size]? = some (.cells cur 24 (0, 0)) → w1.heap[w.heap.size]? = some (.cells (cur.setIfInBounds k (.slice (some ⟨a, 0, none⟩) s.length c)) 24 (0, 0))) (ha : wr.heap.size ≤ a) (hb : Bytes w1 a s) :
    ∃ A' C', Fill w w1 ns n (k + 1) A' C' := by
  obtain ⟨cur, hcb, hcs, hcc⟩ := h.blk
  have hlt := lt_of_block hcb
  refine ⟨fun i => if i = k then a else A i, fun i => if i = k then c else C i, h.below.trans (hK.below (by omega) (fun b hb => by omega)), ⟨_, hblk cur hcb, by simpa using hcs, fun i hi => ?_⟩, fun i hi => ?_⟩
  · by_cases e : i = k
    · subst e
      simp only [if_true, hs]
      rw [Array.getElem?_setIfInBounds_self, if_pos (by omega)]
    · simp only [e, if_false]
      rw [Array.getElem?_setIfInBounds_ne (Ne.symm e)]
      exact hcc i (by omega)
  · by_cases e : i = k
    · subst e
      simp only [if_true, hs]
      exact ⟨by omega, hb⟩
    · simp only [e, if_false]
      obtain ⟨h1, h2⟩ := h.bytes i (by omega)
      exact ⟨h1, h2.of_block (hK.block _ h2.lt (by omega))⟩

theorem fill_start (w : World) (ns : List (List UInt8)) (n : Nat) : Fill w (w.alloc (.cells (madeCells #[.slice none 0 0] n) 24)) ns n 0 (fun _ => 0) (fun _ => 0) :=
  ⟨(Below.refl _ _).alloc (Nat.le_refl _) _, ⟨_, heap_alloc_new w _, by simp [madeCells], fun i hi => absurd hi (Nat.not_lt_zero _)⟩, fun i hi => absurd hi (Nat.not_lt_zero _)⟩

/-- All are laid; the parser is new. -/
theorem Fill.done {w wr : World} {ns : List (List UInt8)} {A C : Nat → Nat} (h : Fill w wr ns ns.length ns.length A C) :
    CI (wr.alloc (.cells (prow (.map none) (.slice none 0 0) (.slice none 0 0) 0) 29)) (wr.alloc (.cells (prow (.map none) (.slice none 0 0) (.slice none 0 0) 0) 29)) w.heap.size wr.heap.size w.heap.size ns A C (.slice none 0 0) [] [] := by
  obtain ⟨cur, hcb, hcs, hcc⟩ := h.blk
  have hlt := lt_of_block hcb
  refine ⟨none, .slice none 0 0, .slice none 0 0, ⟨List.nodup_nil, .inl ⟨rfl, rfl, rfl, rfl, by omega, heap_alloc_new wr _⟩⟩, World.ownsRow_nil _ _ _ _, ?_, ⟨⟨cur, (Below.heap_alloc _ _ _ hlt).trans hcb, hcc⟩, fun i hi => ?_⟩, Below.refl _ _⟩
  · intro g hg; simp [Value.ownBlock] at hg
  · obtain ⟨h1, h2⟩ := h.bytes i hi
    exact ⟨by omega, h2.of_block (Below.heap_alloc _ _ _ h2.lt)⟩

end Go.Proofs.Ybulkcgom
