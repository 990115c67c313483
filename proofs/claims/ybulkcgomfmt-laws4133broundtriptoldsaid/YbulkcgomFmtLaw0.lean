/-
  What the law's walk needs: the array of ten numbers, the map beside it, the copy of the bytes.
-/
import Derived.Test.YbulkcgomFmtApp
import Derived.Test.YbulkcgomFmtVec
namespace Go.Proofs.YbulkcgomFmt
open Go.RowKit

/-- The array of ten numbers. -/
def Arr (w : World) (g : Nat) (f : Nat → Nat) : Prop := ∃ cur, w.heap[g]? = some (.cells cur 32 (0, 0)) ∧ cur.size = 10 ∧ ∀ i, i < 10 → cur[i]? = some (.int .u64 (f i : Int))
theorem Arr.cell {w : World} {g : Nat} {f : Nat → Nat} (h : Arr w g f) {i : Nat} (hi : i < 10) : w.cell? ⟨g, i, none⟩ = some (.int .u64 (f i : Int)) := by
  obtain ⟨cur, hb, _, hc⟩ := h
  simp [World.cell?, hb, hc i hi]
theorem Arr.free {w : World} {g : Nat} {f : Nat → Nat} (h : Arr w g f) (i : Nat) : w.frozen? ⟨g, i, none⟩ = false := by
  obtain ⟨cur, hb, _, hc⟩ := h
  simp [World.frozen?, hb]
theorem Arr.lt {w : World} {g : Nat} {f : Nat → Nat} (h : Arr w g f) : g < w.heap.size := by
  obtain ⟨cur, hb, _⟩ := h
  exact lt_of_block hb
theorem Arr.of_block {w w' : World} {g : Nat} {f : Nat → Nat} (h : Arr w g f) (hb : w'.heap[g]? = w.heap[g]?) : Arr w' g f := by
  obtain ⟨cur, hh, r⟩ := h
  exact ⟨cur, hb.trans hh, r⟩
def upd (f : Nat → Nat) (i x : Nat) : Nat → Nat := fun j => if j = i then x else f j
theorem Arr.set {w : World} {g : Nat} {f : Nat → Nat} (h : Arr w g f) {i : Nat} (hi : i < 10) (x : Nat) : Arr (w.setCell ⟨g, i, none⟩ (.int .u64 (x : Int))) g (upd f i x) := by
  obtain ⟨cur, hb, hs, hc⟩ := h
  refine ⟨_, heap_set hb _ _, by simpa using hs, fun j hj => ?_⟩
  unfold upd
  by_cases e : j = i
  · subst e
    rw [Array.getElem?_setIfInBounds_self, if_pos (by omega)]; simp
  · rw [Array.getElem?_setIfInBounds_ne (Ne.symm e), hc j hj]; simp [e]

theorem VMap.start : VMap (.map []) (fun _ => 0) := ⟨fun _ h => (by cases h), fun _ _ h => (by cases h), fun _ _ _ => rfl⟩
theorem VMap.put {D : DataW Unit} {f : Nat → Nat} (h : VMap D f) (ht : Maps.Tidy D) {i : Nat} (hi : i < 10) (x : Nat) : VMap (D.put (.string (hname i)) (.lit (.int .u64 (x : Int)))) (upd f i x) := by
  refine ⟨fun kl hk => ?_, fun j hj hk zd => ?_, fun j hj hk => ?_⟩
  · by_cases e : kl = .string (hname i)
    · exact ⟨i, hi, e⟩
    · rw [Maps.has_put_other e] at hk; exact h.keys kl hk
  · by_cases e : j = i
    · subst e
      rw [Maps.atKey_put_same ht.isMap (isKey _)]; simp [upd]
    · have e' : hname j ≠ hname i := fun x => e (hname_inj hj hi x)
      rw [Maps.has_put_other (lit_ne e')] at hk
      rw [Maps.atKey_put_other (lit_ne e'), h.at_ j hj hk]; simp [upd, e]
  · by_cases e : j = i
    · subst e
      rw [Maps.has_put_same ht.isMap (isKey _)] at hk; cases hk
    · have e' : hname j ≠ hname i := fun x => e (hname_inj hj hi x)
      rw [Maps.has_put_other (lit_ne e')] at hk
      simp [upd, e, h.absent j hj hk]

/-- An entry past the n hosts among the first k. -/
def bk (f : Nat → Nat) (n : Nat) : Nat → Bool
  | 0 => false
  | k + 1 => bk f n k || (decide (f k ≠ 0) && decide (n ≤ k))
theorem bk_true (f : Nat → Nat) (n k : Nat) : bk f n k = true ↔ ∃ j, n ≤ j ∧ j < k ∧ f j ≠ 0 := by
  induction k with
  | zero => simp [bk]
  | succ k ih =>
    simp only [bk, Bool.or_eq_true, ih, Bool.and_eq_true, decide_eq_true_eq]
    constructor
    · rintro (⟨j, h1, h2, h3⟩ | ⟨h1, h2⟩)
      · exact ⟨j, h1, by omega, h3⟩
      · exact ⟨k, h2, by omega, h1⟩
    · rintro ⟨j, h1, h2, h3⟩
      by_cases e : j = k
      · subst e; exact .inr ⟨h3, h1⟩
      · exact .inl ⟨j, h1, by omega, h3⟩
theorem nzc_past (f : Nat → Nat) (n k : Nat) (h : n ≤ k) (h0 : ∀ j, n ≤ j → j < k → f j = 0) : nzc f k = nzc f n := by
  induction k with
  | zero => obtain rfl : n = 0 := by omega
            rfl
  | succ k ih =>
    by_cases e : n = k + 1
    · subst e; rfl
    · simp [nzc, h0 k (by omega) (by omega), ih (by omega) (fun j h1 h2 => h0 j h1 (by omega))]

/-- The array of names. -/
def namesA : Array Value := ((List.range 10).map fun j => str (hname j)).toArray
theorem names_cell {w : World} {Ba : Nat} (h : w.heap[Ba]? = some (.cells namesA 24 (0, 0))) {j : Nat} (hj : j < 10) : w.cell? ⟨Ba, j, none⟩ = some (.string ⟨(hname j).toArray⟩) := by
  simp [World.cell?, h, namesA, hj, str]

/-- The world at the law's first loop. -/
structure LI (W w0 wr : World) (n Bn Ba Bf bm N : Nat) (D : DataW Unit) (f : Nat → Nat) : Prop where
  num : Num wr w0.heap.size Bn n
  names : wr.heap[Ba]? = some (.cells namesA 24 (0, 0))
  arr : Arr wr Bf f
  map : wr.ownsMap Ybaf.prog 9 (plainElem Ybaf.prog 31) bm N D
  tidy : Maps.Tidy D
  vmap : VMap D f
  kept : Kept W wr (fun _ => False)
  lf : w0.heap.size ≤ Bf
  lm : w0.heap.size ≤ bm
  le : W.heap.size ≤ w0.heap.size
  sz : w0.heap.size ≤ wr.heap.size
  fits : ∀ i, i < 10 → f i < 18446744073709551616

theorem LI.keep {W w0 wr w1 : World} {n Bn Ba Bf bm N : Nat} {D : DataW Unit} {f : Nat → Nat} (h : LI W w0 wr n Bn Ba Bf bm N D f) (hK : Kept wr w1 (fun _ => False)) : LI W w0 w1 n Bn Ba Bf bm N D f :=
  ⟨h.num.below (hK.below h.sz (fun _ h => h.elim)), (hK.block _ (lt_of_block h.names) (fun h => h)).trans h.names, h.arr.of_block (hK.block _ h.arr.lt (fun h => h)), map_block h.map (hK.block _ h.map.lt (fun h => h)), h.tidy, h.vmap, h.kept.trans hK (fun _ _ h => h), h.lf, h.lm, h.le, Nat.le_trans h.sz hK.size, h.fits⟩

/-- One round: the array's cell written, then the map's entry. -/
theorem LI.put {W w0 wr w2 w3 : World} {n Bn Ba Bf bm N : Nat} {D : DataW Unit} {f : Nat → Nat} {i x : Nat} {o : Obj} (h : LI W w0 wr n Bn Ba Bf bm N D f) (hi : i < 10) (hx : x < 18446744073709551616)
    (h2 : w2 = (wr.setCell ⟨Bf, i, none⟩ (.int .u64 (x : Int))).alloc o) (h3 : w3.ownsMap Ybaf.prog 9 (plainElem Ybaf.prog 31) bm (N + 1) (D.put (.string (hname i)) (.lit (.int .u64 (x : Int))))) (hg : w2.drew.grownBy w3 (some bm)) : LI W w0 w3 n Bn Ba Bf bm (N + 1) (D.put (.string (hname i)) (.lit (.int .u64 (x : Int)))) (upd f i x) := by
  subst h2
  have hlf := h.lf
  have hlm := h.lm
  have hle := h.le
  have hK : Kept wr w3 (fun b => b = Bf ∨ b = bm) := (((Kept.setCell wr ⟨Bf, i, none⟩ _ (fun b => b = Bf ∨ b = bm) (.inl rfl)).trans (Kept.alloc _ o (fun _ => False)) (fun _ _ h => h.elim)).trans (Kept.drew _ (fun _ => False)) (fun _ _ h => h.elim)).trans (Kept.grown hg (fun b => b = bm) (fun b hb => (Option.some.inj hb).symm)) (fun x hx e => .inr e)
  obtain ⟨es, cl, hmb⟩ := map_is h.map
  obtain ⟨cur, hab, _⟩ := id h.arr
  have hne : Bf ≠ bm := fun e => by subst e; rw [hmb] at hab; cases hab
  refine ⟨h.num.below (hK.below h.sz (fun b hb => by rcases hb with e | e <;> omega)), (hK.block _ (lt_of_block h.names) (fun e => ?_)).trans h.names, ?_, h3, h.tidy.put (isKey _) _, h.vmap.put h.tidy hi x, ?_, h.lf, h.lm, h.le, Nat.le_trans h.sz hK.size, fun j hj => ?_⟩
  · rcases e with e | e
    · subst e; have := h.names; rw [hab] at this; simp at this
    · subst e; have := h.names; rw [hmb] at this; cases this
  · have hl := h.arr.lt
    exact (h.arr.set hi x).of_block ((hg.block Bf (by simp; omega) (fun e => hne (Option.some.inj e))).trans (Below.heap_alloc _ o Bf (by simpa using hl)))
  · exact h.kept.trans hK (fun x hx e => by rcases e with e | e <;> omega)
  · unfold upd; split
    · exact hx
    · exact h.fits j hj

theorem bv_get (l : List UInt8) {j : Nat} (hj : j < l.length) : (bv l)[j]? = some (.int .u8 (l[j].toNat : Int)) := by simp [bv, hj]

theorem zero31 (w : World) : (zeroValue 31).run Ybaf.prog w = .ok (.int .u64 0) w := by rfl
theorem look_vm {w : World} {b N n k : Nat} {f : Nat → Nat} (h : w.ownsMap Ybaf.prog 9 (plainElem Ybaf.prog 31) b N (vmD f n)) (hn : n ≤ 10) (hk : k < n) (h0 : f k ≠ 0) :
    (Instr.lookup 34 (.map (some b)) (.string ⟨(hname k).toArray⟩) true).run Ybaf.prog w = .ok (.tuple #[.int .u64 (f k : Int), .bool true]) w := by
  have hlen : (hname k).length ≤ maxLen := by simp [hname, maxLen]
  obtain ⟨v, ps, hlk, hv⟩ := h.look_ok (Maps.string_keyed Ybaf.underlying9) Ybaf.underlying34 (zero31 _) (plainElem_int Ybaf.underlying31 (by decide)) (key_str hlen)
  rw [vmD_has f n k hn (by omega)] at hlk
  rw [hlk]
  rw [vmD_at f n k hn hk h0] at hv
  obtain ⟨c, rfl, hc, _⟩ := plainElem_int_inv Ybaf.underlying31 hv
  simp at hc
  simp [hk, h0, hc.1]

theorem own_cap {w : World} {base e size : Nat} {ao : Option Addr} {n cap : Nat} {xs : List Value} (h : w.ownsRow base e size (.slice ao n cap) n xs) : n ≤ cap ∧ cap ≤ maxLen := by
  rcases h.2 with ⟨h1, rfl⟩ | ⟨g, c, cur, h1, _, _, h2, h3, _⟩
  · simp only [Value.slice.injEq] at h1; omega
  · simp only [Value.slice.injEq] at h1
    obtain ⟨_, _, rfl⟩ := h1
    exact ⟨h2, h3⟩

/-- 'append([]byte(nil), b...)'. -/
theorem copy_run (w : World) (base : Nat) (ao : Option Addr) (bs : List UInt8) (lb c : Nat) (hl : bs.length = lb) (hb : base ≤ w.heap.size) (hlb : lb ≤ 1024) (h : (lb = 0 ∧ ((ao = none ∧ c = 0) ∨ ∃ ad, ao = some ad)) ∨ ∃ b off, ao = some ⟨b, off, none⟩ ∧ Lies w b off bs) :
    ∃ v w', (Builtin.append_ #[23, 23] 23 #[.slice none 0 0, .slice ao lb c]).run Ybaf.prog w = .ok v w' ∧ w'.ownsRow base 5 1 v lb (bv bs) ∧ w.grownBy w' none := by
  obtain ⟨i0, hi0, hz0, hz1, hz2⟩ := info_parts Ybaf.info5
  rcases h with ⟨rfl, (⟨rfl, rfl⟩ | ⟨ad, rfl⟩)⟩ | ⟨b, off, rfl, hL⟩
  · obtain rfl : bs = [] := by simpa using hl
    refine ⟨.slice none 0 0, w, ?_, World.ownsRow_nil _ _ _ _, ⟨rfl, rfl, rfl, Nat.le_refl _, fun _ _ _ => rfl⟩⟩
    simp [Builtin.append_, run_underlying Ybaf.underlying23, sizeOf, typeInfo, hi0, Builtin.lenOf, run_firstCells_none]
  · obtain rfl : bs = [] := by simpa using hl
    obtain ⟨v', w', hr, h2, h3, _, _⟩ := run_append_own_at (P := Ybaf.prog) w base 23 23 5 i0 _ 1 1 Ybaf.underlying23 hi0 hz0 hz1 hz2 rfl (by omega) (.slice none 0 0) 0 [] (World.ownsRow_nil _ _ _ _) ad 0 c [] rfl (fun j u hu => by simp at hu) (fun u hu => by simp at hu) (by unfold maxLen; omega) (by omega) hb
    simp only [Nat.zero_add, List.nil_append] at h2
    exact ⟨v', w', hr, h2, h3⟩
  · obtain ⟨v', w', hr, h2, h3, _, _⟩ := run_append_own_at (P := Ybaf.prog) w base 23 23 5 i0 _ 1 1 Ybaf.underlying23 hi0 hz0 hz1 hz2 rfl (by omega) (.slice none 0 0) 0 [] (World.ownsRow_nil _ _ _ _) ⟨b, off, none⟩ lb c (bv bs) (by simp [bv_length, hl]) (fun j u hu => by
        have hj : j < bs.length := by have := (List.getElem?_eq_some_iff.1 hu).1; simpa [bv_length] using this
        rw [Addr.add_lit, hL j hj, ← hu]; simp [bv, hj]) (by intro u hu; simp only [bv, List.mem_map] at hu; obtain ⟨c, _, rfl⟩ := hu; rfl) (by unfold maxLen; omega) (by omega) hb
    simp only [Nat.zero_add, List.nil_append] at h2
    exact ⟨v', w', hr, h2, h3⟩

end Go.Proofs.YbulkcgomFmt
