/-
  ParseWire: the entries put into a map.
-/
import Derived.Test.YbulkcgomFmtParse
namespace Go.Proofs.YbulkcgomFmt
open Go.RowKit

/-- The map of the first k hosts' entries. -/
def vmD (f : Nat → Nat) : Nat → DataW Unit
  | 0 => .map []
  | k + 1 => if f k = 0 then vmD f k else (vmD f k).put (.string (hname k)) (.lit (.int .u64 (f k : Int)))
theorem vmD_tidy (f : Nat → Nat) (k : Nat) : Maps.Tidy (vmD f k) := by
  induction k with
  | zero => exact Maps.tidy_empty
  | succ k ih =>
    simp only [vmD]
    split
    · exact ih
    · exact ih.put (isKey _) _
theorem vmD_has (f : Nat → Nat) (k i : Nat) (hk : k ≤ 10) (hi : i < 10) : Maps.has (vmD f k) (.string (hname i)) = decide (i < k ∧ f i ≠ 0) := by
  induction k with
  | zero => simp [vmD]; rfl
  | succ k ih =>
    have ih := ih (by omega)
    simp only [vmD]
    by_cases h0 : f k = 0
    · rw [if_pos h0, ih]
      by_cases e : i = k
      · subst e; simp [h0]
      · have : (i < k + 1) = (i < k) := by simp; omega
        simp [this]
    · rw [if_neg h0]
      by_cases e : i = k
      · subst e; rw [Maps.has_put_same (vmD_tidy f i).isMap (isKey _)]; simp [h0]
      · rw [Maps.has_put_other (lit_ne (fun h => e (hname_inj hi (by omega) h))), ih]
        have : (i < k + 1) = (i < k) := by simp; omega
        simp [this]
theorem vmD_at (f : Nat → Nat) (k i : Nat) (hk : k ≤ 10) (hi : i < k) (h0 : f i ≠ 0) (z : DataW Unit) : (vmD f k).atKey (.string (hname i)) z = .lit (.int .u64 (f i : Int)) := by
  induction k with
  | zero => omega
  | succ k ih =>
    simp only [vmD]
    by_cases e : i = k
    · subst e; rw [if_neg h0, Maps.atKey_put_same (vmD_tidy f i).isMap (isKey _)]
    · have ih := ih (by omega) (by omega)
      split
      · exact ih
      · rw [Maps.atKey_put_other (lit_ne (fun h => e (hname_inj (by omega) (by omega) h))), ih]
theorem vmD_size (f : Nat → Nat) (k : Nat) (hk : k ≤ 10) : Maps.size (vmD f k) = nzc f k := by
  induction k with
  | zero => rfl
  | succ k ih =>
    have ih := ih (by omega)
    simp only [vmD, nzc]
    by_cases h0 : f k = 0
    · simp [h0, ih]
    · rw [if_neg h0, if_neg h0, Maps.size_put (vmD_tidy f k), vmD_has f k k (by omega) (by omega)]
      simp [ih]
theorem vmD_flat (f : Nat → Nat) {k n : Nat} (h : k ≤ n) (he : nzc f n = nzc f k) : vmD f n = vmD f k := by
  induction n with
  | zero => obtain rfl : k = 0 := by omega
            rfl
  | succ n ih =>
    by_cases e : k = n + 1
    · subst e; rfl
    · have hm := nzc_mono f (show k ≤ n by omega)
      have h0 : f n = 0 := by
        by_cases h0 : f n = 0
        · exact h0
        · simp only [nzc, h0, if_false] at he; omega
      have he' : nzc f n = nzc f k := by simp only [nzc, h0, if_true] at he; omega
      simp only [vmD, h0, if_true]; exact ih (by omega) he'
theorem ents_prefix (f : Nat → Nat) {k n : Nat} (h : k ≤ n) : ∃ t, ents f n = ents f k ++ t := by
  induction n with
  | zero => obtain rfl : k = 0 := by omega
            exact ⟨[], by simp⟩
  | succ n ih =>
    by_cases e : k = n + 1
    · subst e; exact ⟨[], by simp⟩
    · obtain ⟨t, ht⟩ := ih (by omega)
      simp only [ents]
      split
      · exact ⟨t, ht⟩
      · exact ⟨t ++ [.int .i64 (n : Int), .int .u64 (f n : Int)], by rw [ht, List.append_assoc]⟩
theorem ents_at (f : Nat → Nat) {j n : Nat} (h : j < n) (h0 : f j ≠ 0) : (ents f n)[nzc f j * 2]? = some (.int .i64 (j : Int)) ∧ (ents f n)[nzc f j * 2 + 1]? = some (.int .u64 (f j : Int)) := by
  obtain ⟨t, ht⟩ := ents_prefix f (show j + 1 ≤ n by omega)
  have hl := ents_length f j
  rw [ht]
  simp only [ents, h0, if_false, List.append_assoc]
  constructor
  · rw [List.getElem?_append_right (by omega), hl]; simp
  · rw [List.getElem?_append_right (by omega), hl]; simp

structure WI (w wr : World) (bm : Nat) (v : Value) (K t : Nat) (es : List Value) (D : DataW Unit) : Prop where
  own : wr.ownsRow w.heap.size 60 2 v K es
  map : wr.ownsMap Ybaf.prog 9 (plainElem Ybaf.prog 31) bm t D
  kept : Kept w wr (fun _ => False)
  lbm : w.heap.size ≤ bm

theorem WI.put {w wr w1 : World} {bm : Nat} {v : Value} {K t : Nat} {es : List Value} {D D' : DataW Unit} {o : Obj} (h : WI w wr bm v K t es D) (hm : w1.ownsMap Ybaf.prog 9 (plainElem Ybaf.prog 31) bm (t + 1) D') (hg : (wr.alloc o).drew.grownBy w1 (some bm)) : WI w w1 bm v K (t + 1) es D' := by
  have hs := h.kept.size
  obtain ⟨es', cl, hh⟩ := map_is h.map
  refine ⟨own_block h.own fun b hb => ?_, hm, ?_, h.lbm⟩
  · obtain ⟨_, cur, hc⟩ := own_is h.own hb
    refine (hg.block b ?_ (fun e => ?_)).trans (Below.heap_alloc wr o b (lt_of_block hc))
    · have := lt_of_block hc; simp; omega
    · obtain rfl := Option.some.inj e
      rw [hh] at hc; cases hc
  · exact ((h.kept.trans (Kept.alloc wr o (fun _ => False)) (fun _ _ h => h)).trans (Kept.drew _ (fun _ => False)) (fun _ _ h => h)).trans (Kept.grown hg (fun b => b = bm) (fun b hb => (Option.some.inj hb).symm)) (fun x hx e => by have := h.lbm; omega)

set_option maxRecDepth 100000 in
set_option maxHeartbeats 1000000 in
theorem parse6 (w : World) (S Bn n g o c : Nat) (f : Nat → Nat) (hN : Num w S Bn n) (hn : n ≤ 8) (hS : S ≤ w.heap.size) (hf : ∀ i, i < n → f i < 18446744073709551616) (hL : Lies w g o (wire f n)) (hg : g < w.heap.size) (M : Nat) (hM : (wire f n).length = M) (hc : M ≤ c) (hcm : c ≤ 9223372036854775807) :
    Calls Ybaf.prog 6 #[.slice (some ⟨g, o, none⟩) M c, .pointer (some ⟨Bn, 0, none⟩)] w fun e w' => ∃ bm ad cc, e = .returned (.tuple #[.map (some bm), .slice ad 0 cc, .nilIface]) ∧ w'.ownsMap Ybaf.prog 9 (plainElem Ybaf.prog 31) bm (nzc f n) (vmD f n) ∧ w.heap.size ≤ bm ∧ Kept w w' (fun _ => False) := by
  have hP := parse10 w S Bn n g o c f hN hn hS hf hL hg M hM hc hcm
  have hnz := nzc_le f n
  have hmm : ∀ (x : World) (k : Int), (Instr.makeMap 34 (some (.int .i64 k))).run Ybaf.prog x = .ok (.map (some x.heap.size)) (x.alloc (.map #[] 0)) := fun x k => by
    simp [Instr.makeMap, run_underlying Ybaf.underlying34, asInt, asIntOf]
  clear hL hg hM hc hcm
  generalize hK : nzc f n = K at hP hnz ⊢
  generalize hE : ents f n = es at hP
  have hH : Hid (nzc f n = K ∧ ents f n = es) := ⟨hK, hE⟩
  clear hK hE
  go_enter Ybaf.func6, Ybaf.ntmps6
  go_upto_block 0 with (first | (go_at_call 10; refine hP.mono ?_; rintro e w1 ⟨v, ad, cc, rfl, hown1, hK1⟩; obtain ⟨va, vc, rfl⟩ := own_shape hown1))
  have hI0 : WI w ((w1.alloc (.cells #[.pointer (some ⟨Bn, 0, none⟩), .slice va K vc] 56)).alloc (.map #[] 0)) (w1.heap.size + 1) (.slice va K vc) K 0 es (.map []) := by
    have hs := hK1.size
    refine ⟨(hown1.alloc _).alloc _, ?_, (hK1.trans (Kept.alloc _ _ (fun _ => False)) (fun _ _ h => h)).trans (Kept.alloc _ _ (fun _ => False)) (fun _ _ h => h), by omega⟩
    have := World.ownsMap_made (H := Unit) (w1.alloc (.cells #[.pointer (some ⟨Bn, 0, none⟩), .slice va K vc] 56)) Ybaf.prog 9 (plainElem Ybaf.prog 31)
    simpa using this
  generalize (w1.alloc (.cells #[.pointer (some ⟨Bn, 0, none⟩), .slice va K vc] 56)).alloc (.map #[] 0) = w2 at hI0 ⊢
  generalize w1.heap.size + 1 = bm at hI0 ⊢
  clear hP hmm hK1 hown1
  go_wp2_with fail
  go_loopg [31] K (fun gg i wr => ∃ k : Nat, k ≤ n ∧ nzc f k ≤ K ∧ gg = K - nzc f k ∧ i = .int .i64 (nzc f k : Int) ∧ WI w wr bm (.slice va K vc) K (nzc f k) es (vmD f k))
  case atStart => exact ⟨0, Nat.zero_le _, Nat.zero_le _, rfl, rfl, hI0⟩
  case round =>
    obtain ⟨k, hkn, hkK, rfl, rfl, hI⟩ := hrel
    clear hI0
    by_cases hlt : nzc f k < K
    · obtain ⟨j, hkj, hjn, hfj, hnj⟩ := next_entry f hkn (by rw [hH.out.1]; exact hlt)
      obtain ⟨e1, e2⟩ := ents_at f hjn hfj
      rw [hH.out.2, hnj] at e1 e2
      have hD := vmD_flat f hkj hnj
      have hD2 : Hid (vmD f (j + 1) = (vmD f k).put (.string (hname j)) (.lit (.int .u64 (f j : Int))) ∧ nzc f (j + 1) = nzc f k + 1) := ⟨by simp [vmD, hfj, hD], by simp [nzc, hfj, hnj]⟩
      have hkey := key_str (s := hname j) (by simp [hname, maxLen])
      have hxj := hf j hjn
      obtain ⟨gE, cap, ee, _, _⟩ := hI.own.form (by omega)
      simp only [Value.slice.injEq, true_and] at ee
      obtain ⟨rfl, rfl⟩ := ee
      have c0 : wr.cell? ⟨gE, nzc f k * 2, none⟩ = some (.int .i64 (j : Int)) := by
        have := hI.own.cells (g := gE) rfl _ _ e1
        rw [Addr.add_lit, Nat.zero_add] at this; exact this
      have c1 : wr.cell? ⟨gE, nzc f k * 2 + 1, none⟩ = some (.int .u64 (f j : Int)) := by
        have := hI.own.cells (g := gE) rfl _ _ e2
        rw [Addr.add_lit, Nat.zero_add] at this; exact this
      clear e1 e2 hnj hD
      have hkkH : Hid (nzc f k = nzc f k) := rfl
      generalize hkk : nzc f k = kk at hI hlt hkK c0 c1 hD2 hkkH ⊢
      have hkH : Hid (nzc f k = kk) := hkk
      generalize hDk : vmD f k = D at hI hD2
      clear hkk hDk hkkH
      generalize f j = x at hfj hxj c1 hD2
      obtain ⟨w1', hrun, hown', hgrow'⟩ := (hI.map.alloc (.cells #[.int .i64 (j : Int), .int .u64 (x : Int)] 60)).drew.update (Maps.string_keyed Ybaf.underlying9) Ybaf.underlying34 (by unfold maxLen; omega) hkey (plainElem_int (H := Unit) (a := (x : Int)) Ybaf.underlying31 (WalkArith.wf_u64 ⟨by omega, by omega⟩))
      have hNn : Num ((wr.alloc (.cells #[.int .i64 (j : Int), .int .u64 (x : Int)] 60)).drew) S Bn n := hN.below ((((hI.kept.trans (Kept.alloc wr _ (fun _ => False)) (fun _ _ h => h)).trans (Kept.drew _ (fun _ => False)) (fun _ _ h => h))).below hS (fun _ h => h.elim))
      have hltz : (kk : Int) < (K : Int) := by omega
      have hnm := name11 _ S Bn n j hNn hjn hn
      generalize (hname j).toArray = sj at hrun hnm
      go_upto_region 8 with fail
      go_region_with (go_at_call 11; refine hnm.mono ?_; rintro e w' ⟨rfl, rfl⟩)
      all_goals
        go_wp2_with fail
        go_roundg (K - (kk + 1))
        case measure => go_light; have := hkH.out; omega
        case rel =>
          go_light
          exact ⟨j + 1, by omega, by rw [hD2.out.2]; omega, by rw [hD2.out.2], by rw [hD2.out.2]; go_num, by rw [hD2.out.1, hD2.out.2]; exact hI.put hown' hgrow'⟩
    · have hltz : ¬ ((nzc f k : Int) < (K : Int)) := by omega
      have hkk : nzc f n = nzc f k := by rw [hH.out.1]; omega
      have hDD : Hid (nzc f k = K ∧ vmD f n = vmD f k) := ⟨by omega, vmD_flat f hkn hkk⟩
      clear hkk
      generalize nzc f k = kk at hI hltz hDD hlt hkK ⊢
      go_wp2
      go_ret3
      exact ⟨bm, ⟨ad, cc, rfl⟩, by rw [hDD.out.2, ← hDD.out.1]; exact hI.map, hI.lbm, hI.kept⟩
#print axioms parse6
end Go.Proofs.YbulkcgomFmt
