/-
  slices.Grow of nothing; what the parsed entries are, plainly.
-/
import Derived.Test.YbulkcgomFmtWire
import Derived.Lib.AppendZeros
namespace Go.Proofs.YbulkcgomFmt
open Go.RowKit

theorem Ybaf.info60 : (Ybaf.prog.info? 60).map (fun i => (i.zero, i.size, i.bytes)) = some (some (.agg #[.int .i64 0, .int .u64 0]), 2, 16) := by kernel_rfl

set_option maxRecDepth 100000 in
/-- 'slices.Grow(nil, k)'. -/
theorem grow20 (w : World) (base k : Nat) (hk : k ≤ 8) (hb : base ≤ w.heap.size) :
    Calls Ybaf.prog 20 #[.slice none 0 0, .int .i64 (k : Int)] w fun e w' => ∃ v, e = .returned v ∧ w'.ownsRow base 60 2 v 0 [] ∧ Kept w w' (fun _ => False) := by
  obtain ⟨i0, hi0, hz0, hz1, hz2⟩ := info_parts Ybaf.info60
  by_cases h0 : k = 0
  · subst h0
    go_enter Ybaf.func20, Ybaf.ntmps20
    go_wp2
    go_ret
    exact ⟨_, rfl, World.ownsRow_nil _ _ _ _, Kept.refl _ _⟩
  · have hkp : (0 : Int) < (k : Int) := by omega
    have hr := Lib.run_append_nil_zeros (P := Ybaf.prog) w 54 3 54 60 i0 _ .i64 .i64 Ybaf.underlying54 Ybaf.underlying3 hi0 hz0 k (by omega) (by omega) (by omega) (by rw [hz2]; omega)
    have hge := grownCap_ge w k 0 60
    have hle := grownCap_le_maxLen w k 0 60 (by unfold maxLen; omega)
    generalize grownCap w k 0 60 = cap at hr hge hle
    have hml : cap ≤ 9223372036854775807 := by unfold maxLen at hle; omega
    have hsz : Hid ((Builtin.zeroCells (Value.agg #[Value.int .i64 0, Value.int .u64 0]).cells k ++ Builtin.zeroCells (Value.agg #[Value.int .i64 0, Value.int .u64 0]).cells (cap - k)).size = cap * 2) := by
      show _ = _
      rw [Array.size_append, size_zeroCells, size_zeroCells]
      show k * 2 + (cap - k) * 2 = cap * 2
      omega
    generalize (Builtin.zeroCells (Value.agg #[Value.int .i64 0, Value.int .u64 0]).cells k ++ Builtin.zeroCells (Value.agg #[Value.int .i64 0, Value.int .u64 0]).cells (cap - k)) = cur at hr hsz
    go_enter Ybaf.func20, Ybaf.ntmps20
    go_wp2_with (at_builtin; refine Lib.wpList_append_run _ rfl _ _ _ _ rfl _ _ rfl rfl _ _ hr ?_)
    go_ret
    refine ⟨_, rfl, ⟨rfl, .inr ⟨w.heap.size, cap, cur, rfl, hb, ?_, Nat.zero_le _, hle, hsz.out, by simp⟩⟩, (Kept.drew w _).trans (Kept.alloc _ _ (fun _ => False)) (fun _ _ h => h)⟩
    exact heap_alloc_new w.drew _

/-- The entries of the first k hosts, cell by cell. -/
def ents (f : Nat → Nat) : Nat → List Value
  | 0 => []
  | k + 1 => if f k = 0 then ents f k else ents f k ++ [.int .i64 (k : Int), .int .u64 (f k : Int)]

theorem nzc_mono (f : Nat → Nat) {k n : Nat} (h : k ≤ n) : nzc f k ≤ nzc f n := by
  induction n with
  | zero => obtain rfl : k = 0 := by omega
            exact Nat.le_refl _
  | succ n ih =>
    by_cases e : k = n + 1
    · subst e; exact Nat.le_refl _
    · have := ih (by omega)
      simp only [nzc]; omega
theorem flat (f : Nat → Nat) {k n : Nat} (h : k ≤ n) (he : nzc f n = nzc f k) : gp f n = gp f k + (n - k) ∧ wb f n = wb f k ∧ ents f n = ents f k := by
  induction n with
  | zero => obtain rfl : k = 0 := by omega
            exact ⟨rfl, rfl, rfl⟩
  | succ n ih =>
    by_cases e : k = n + 1
    · subst e; exact ⟨by omega, rfl, rfl⟩
    · have hm := nzc_mono f (show k ≤ n by omega)
      have h0 : f n = 0 := by
        by_cases h0 : f n = 0
        · exact h0
        · simp only [nzc, h0, if_false] at he; omega
      have he' : nzc f n = nzc f k := by simp only [nzc, h0, if_true] at he; omega
      obtain ⟨a, b, c⟩ := ih (by omega) he'
      refine ⟨?_, ?_, ?_⟩
      · simp only [gp, h0, if_true]; omega
      · simp only [wb, h0, if_true]; exact b
      · simp only [ents, h0, if_true]; exact c
theorem wb_prefix (f : Nat → Nat) {k n : Nat} (h : k ≤ n) : ∃ t, wb f n = wb f k ++ t := by
  induction n with
  | zero => obtain rfl : k = 0 := by omega
            exact ⟨[], by simp⟩
  | succ n ih =>
    by_cases e : k = n + 1
    · subst e; exact ⟨[], by simp⟩
    · obtain ⟨t, ht⟩ := ih (by omega)
      simp only [wb]
      split
      · exact ⟨t, ht⟩
      · exact ⟨t ++ (enc (gp f n) ++ enc (f n)), by rw [ht, List.append_assoc]⟩
/-- The next entry. -/
theorem next_entry (f : Nat → Nat) {k n : Nat} (h : k ≤ n) (hl : nzc f k < nzc f n) : ∃ j, k ≤ j ∧ j < n ∧ f j ≠ 0 ∧ nzc f j = nzc f k := by
  induction n with
  | zero => obtain rfl : k = 0 := by omega
            omega
  | succ n ih =>
    by_cases e : k = n + 1
    · subst e; omega
    · have hm := nzc_mono f (show k ≤ n by omega)
      by_cases hlt : nzc f k < nzc f n
      · obtain ⟨j, h1, h2, h3⟩ := ih (by omega) hlt
        exact ⟨j, h1, by omega, h3⟩
      · refine ⟨n, by omega, by omega, fun h0 => ?_, by omega⟩
        simp only [nzc, h0, if_true] at hl; omega
/-- The next entry's bytes. -/
theorem next_bytes (f : Nat → Nat) {k n : Nat} (h : k ≤ n) (hl : nzc f k < nzc f n) (hg : gp f k = 0) :
    ∃ j t, k ≤ j ∧ j < n ∧ f j ≠ 0 ∧ gp f (j + 1) = 0 ∧ nzc f (j + 1) = nzc f k + 1 ∧ wb f n = wb f k ++ (enc (j - k) ++ (enc (f j) ++ t)) ∧ wb f (j + 1) = wb f k ++ (enc (j - k) ++ enc (f j)) ∧ ents f (j + 1) = ents f k ++ [.int .i64 (j : Int), .int .u64 (f j : Int)] := by
  obtain ⟨j, h1, h2, h3, h4⟩ := next_entry f h hl
  obtain ⟨a, b, c⟩ := flat f h1 h4
  have hw : wb f (j + 1) = wb f k ++ (enc (j - k) ++ enc (f j)) := by
    simp only [wb, h3, if_false]; rw [b, a, hg, Nat.zero_add]
  obtain ⟨t, ht⟩ := wb_prefix f (show j + 1 ≤ n by omega)
  refine ⟨j, t, h1, h2, h3, by simp [gp, h3], by simp [nzc, h3, h4], ?_, hw, by simp [ents, h3, c]⟩
  rw [ht, hw]; simp [List.append_assoc]
theorem nzc_full (f : Nat → Nat) {k n : Nat} (h : k ≤ n) (he : nzc f k = nzc f n) : wb f k = wb f n ∧ ents f k = ents f n := by
  obtain ⟨_, b, c⟩ := flat f h he.symm
  exact ⟨b.symm, c.symm⟩

theorem ents_length (f : Nat → Nat) (k : Nat) : (ents f k).length = nzc f k * 2 := by
  induction k with
  | zero => rfl
  | succ k ih =>
    simp only [ents, nzc]
    split
    · simpa using ih
    · simp [ih]; omega

#print axioms grow20
end Go.Proofs.YbulkcgomFmt
