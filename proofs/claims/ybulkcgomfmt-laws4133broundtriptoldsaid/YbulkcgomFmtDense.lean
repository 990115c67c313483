/-
  A vector (a map) made dense: a range over the map in an order that nobody knows.
-/
import Derived.Test.YbulkcgomFmtWire
import Derived.Test.YbulkcgomFmtErr
import Derived.Maps.RangeWalk
namespace Go.Proofs.YbulkcgomFmt
open Go.RowKit Go.Extern.Stop Go.Stop Go.Extern

/-- The map's datum holds f at the names of ten hosts. -/
structure VMap (D : DataW Unit) (f : Nat → Nat) : Prop where
  keys : ∀ kl, Maps.has D kl = true → ∃ j, j < 10 ∧ kl = .string (hname j)
  at_ : ∀ j, j < 10 → Maps.has D (.string (hname j)) = true → ∀ zd, D.atKey (.string (hname j)) zd = .lit (.int .u64 (f j : Int))
  absent : ∀ j, j < 10 → Maps.has D (.string (hname j)) = false → f j = 0

theorem str_inv {key : Value} {kl : Lit} (h : keyOf Ybaf.prog 9 key = some kl) : ∃ s, key = .string s ∧ kl = .string s.data.toList := by
  cases key <;> simp [keyOf, Ybaf.underlying9, mapKey] at h
  exact ⟨_, rfl, h.2.symm⟩

/-- The range's step, the keys strings, the elements of an integer kind. -/
theorem wpList_next_si {w : World} {ops : Array Oper} {rest : List Oper} {o : Oper} {a : Act} {Q : Exit → Act → World → Prop} (hg : o.guard = none) (it : Operand) (hop : o.op = Op.next it false) (b r n : Nat) (D : DataW Unit) (left : Lit → Bool) (cnt : Nat)
    (hit : a.eval it = .pointer (some ⟨r, 0, none⟩)) (h : w.ranges Ybaf.prog 9 (plainElem Ybaf.prog 31) b r n D left cnt)
    (hDone : (∀ kl, left kl = false) → wpList Ybaf.prog ops Q rest (a.put o.dst (.tuple #[.bool false])) w)
    (hMore : ∀ (s : ByteArray) (c : Int) (w' : World) (cnt' : Nat), left (.string s.data.toList) = true → (∀ zd, D.atKey (.string s.data.toList) zd = .lit (.int .u64 c)) → w'.ranges Ybaf.prog 9 (plainElem Ybaf.prog 31) b r n D (fun z => left z && !z.sameKey (.string s.data.toList)) cnt' → cnt' < cnt →
      w.grownBy w' (some r) → (Instr.entry (.pointer (some ⟨r, 0, none⟩))).run Ybaf.prog w' = .ok (.tuple #[.string s, .int .u64 c]) w' → wpList Ybaf.prog ops Q rest (a.put o.dst (.tuple #[.bool true, .string s, .int .u64 c])) w') :
    wpList Ybaf.prog ops Q (o :: rest) a w :=
  wpList_next_ranges w hg it hop 9 (Maps.string_keyed Ybaf.underlying9) (plainElem Ybaf.prog 31) Value.string (Value.int .u64) (fun key kl hk => by obtain ⟨s, rfl, _⟩ := str_inv hk; exact ⟨s, rfl⟩) (fun v y hv => by obtain ⟨c, rfl, _⟩ := plainElem_int_inv Ybaf.underlying31 hv; exact ⟨c, rfl⟩)
    b r n D left cnt hit h (fun _ => hDone) (fun x c kl y w' cnt' hkey hlk hv hat hrg hlt hgr _ hen => by
      obtain ⟨s, ex, rfl⟩ := str_inv hkey
      cases ex
      obtain ⟨c', ec, hy, _⟩ := plainElem_int_inv Ybaf.underlying31 hv
      cases ec
      exact hMore x c w' cnt' hlk (fun zd => by rw [hat zd, hy]) hrg hlt hgr hen)

/-- What holds at the loop's head. -/
structure DI (w wr : World) (Bn Bd g n bm r N : Nat) (D : DataW Unit) (f : Nat → Nat) (left : Lit → Bool) (cnt : Nat) : Prop where
  rng : wr.ranges Ybaf.prog 9 (plainElem Ybaf.prog 31) bm r N D left cnt
  sub : ∀ kl, left kl = true → Maps.has D kl = true
  cnts : Counts wr g n (fun i => if left (.string (hname i)) = true then 0 else f i)
  kept : Kept w wr (fun _ => False)
  box : wr.heap[Bd]? = some (.cells #[.pointer (some ⟨Bn, 0, none⟩), .slice (some ⟨g, 0, none⟩) n n] 50 (0, 0))
  res : wr.heap[w.heap.size]? = some (.cells #[.pointer none, .slice none 0 0] 50 (0, 0))
  past : ∀ j, n ≤ j → j < 10 → f j ≠ 0 → left (.string (hname j)) = true
  lg : w.heap.size < g
  lr : w.heap.size ≤ r

theorem left_other {left : Lit → Bool} {i j : Nat} (hi : i < 10) (hj : j < 10) (h : i ≠ j) : (left (.string (hname i)) && !(Lit.string (hname i)).sameKey (.string (hname j))) = left (.string (hname i)) := by
  rw [Maps.sameKey_ne (lit_ne (fun e => h (hname_inj hi hj e)))]; simp
theorem left_same {left : Lit → Bool} {j : Nat} : (left (.string (hname j)) && !(Lit.string (hname j)).sameKey (.string (hname j))) = false := by
  rw [WideAt.sameKey_self (isKey _)]; simp

section
variable {w wr w1 : World} {Bn Bd g n bm r N : Nat} {D : DataW Unit} {f : Nat → Nat} {left : Lit → Bool} {cnt cnt1 j : Nat}

/-- Behind the range's step nothing but the iterator has turned. -/
theorem DI.after (h : DI w wr Bn Bd g n bm r N D f left cnt) (hg : wr.grownBy w1 (some r)) :
    Counts w1 g n (fun i => if left (.string (hname i)) = true then 0 else f i) ∧ Kept w w1 (fun _ => False) ∧ w1.heap[Bd]? = some (.cells #[.pointer (some ⟨Bn, 0, none⟩), .slice (some ⟨g, 0, none⟩) n n] 50 (0, 0)) ∧ w1.heap[w.heap.size]? = some (.cells #[.pointer none, .slice none 0 0] 50 (0, 0)) := by
  have hr : ∃ a b c d, wr.heap[r]? = some (.mapIter a b c d) := by
    obtain ⟨es, clock, since, seen, c0, _, _, _, _, hr, _⟩ := h.rng
    exact ⟨_, _, _, _, hr⟩
  obtain ⟨a, b, c, d, hr⟩ := hr
  have keep : ∀ (x : Nat) (cur : Array Value) (e : TypeId) (fr : Nat × Nat), wr.heap[x]? = some (.cells cur e fr) → w1.heap[x]? = wr.heap[x]? := fun x cur e fr hx => hg.block x (lt_of_block hx) (fun e1 => by
    obtain rfl := Option.some.inj e1
    rw [hr] at hx; cases hx)
  obtain ⟨cur, hb, hs⟩ := h.cnts
  have hsz := h.kept.size
  have hlr := h.lr
  refine ⟨⟨cur, (keep _ _ _ _ hb).trans hb, hs⟩, h.kept.trans (Kept.grown hg (fun b => b = r) (fun b hb => (Option.some.inj hb).symm)) (fun x hx e => by omega), (keep _ _ _ _ h.box).trans h.box, (keep _ _ _ _ h.res).trans h.res⟩

/-- An entry of 0. -/
theorem DI.zero (h : DI w wr Bn Bd g n bm r N D f left cnt) (hn : n ≤ 8) (hj : j < 10) (hg : wr.grownBy w1 (some r)) (hrg : w1.ranges Ybaf.prog 9 (plainElem Ybaf.prog 31) bm r N D (fun z => left z && !z.sameKey (.string (hname j))) cnt1) (h0 : f j = 0) :
    DI w w1 Bn Bd g n bm r N D f (fun z => left z && !z.sameKey (.string (hname j))) cnt1 := by
  obtain ⟨a1, a2, a3, a4⟩ := h.after hg
  refine ⟨hrg, fun kl hkl => h.sub kl (by simp at hkl; exact hkl.1), a1.congr (fun i hi => ?_), a2, a3, a4, fun i h1 h2 h3 => ?_, h.lg, h.lr⟩
  · by_cases e : i = j
    · subst e; simp only [left_same, h0]; simp
    · simp only [left_other (left := left) (show i < 10 by omega) hj e]
  · by_cases e : i = j
    · subst e; exact absurd h0 h3
    · rw [left_other h2 hj e]; exact h.past i h1 h2 h3

/-- An entry that is stored. -/
theorem DI.store (h : DI w wr Bn Bd g n bm r N D f left cnt) (hn : n ≤ 8) (hj : j < n) (hg : wr.grownBy w1 (some r)) (hrg : w1.ranges Ybaf.prog 9 (plainElem Ybaf.prog 31) bm r N D (fun z => left z && !z.sameKey (.string (hname j))) cnt1) :
    DI w (w1.setCell ⟨g, j, none⟩ (.int .u64 (f j : Int))) Bn Bd g n bm r N D f (fun z => left z && !z.sameKey (.string (hname j))) cnt1 := by
  obtain ⟨a1, a2, a3, a4⟩ := h.after hg
  have hlg := h.lg
  have hc := a1
  obtain ⟨cur, hb, hs⟩ := hc
  have hgr : w1.grownBy (w1.setCell ⟨g, j, none⟩ (.int .u64 (f j : Int))) (some g) := ⟨rfl, rfl, rfl, by simp, fun x _ hx => Below.heap_setCell _ _ _ _ (fun e => hx (by rw [e]))⟩
  have hne : ∀ (x : Nat) (o : Obj), w1.heap[x]? = some o → (∀ cur fr, o ≠ .cells cur 31 fr) → x ≠ g := fun x o hx ho e => by
    subst e; rw [hb] at hx; exact ho _ _ (Option.some.inj hx).symm
  refine ⟨hrg.kept hgr ?_ ?_, fun kl hkl => h.sub kl (by simp at hkl; exact hkl.1), (a1.set hj (f j)).congr (fun i hi => ?_), ?_, ?_, ?_, fun i h1 h2 h3 => ?_, h.lg, h.lr⟩
  · obtain ⟨es, cl, hh⟩ := map_is hrg.owns
    exact fun e => hne _ _ hh (fun _ _ h => by cases h) (Option.some.inj e)
  · obtain ⟨es, clock, since, seen, c0, _, _, _, _, hr, _⟩ := hrg
    exact fun e => hne _ _ hr (fun _ _ h => by cases h) (Option.some.inj e)
  · by_cases e : i = j
    · subst e; simp only [left_same]; simp
    · simp only [e, if_false, left_other (left := left) (show i < 10 by omega) (show j < 10 by omega) e]
  · exact a2.trans (Kept.setCell w1 ⟨g, j, none⟩ _ (fun b => b = g) rfl) (fun x hx e => by omega)
  · rw [Below.heap_setCell _ _ _ _ (hne _ _ a3 (fun _ _ h => by cases h))]; exact a3
  · rw [Below.heap_setCell _ _ _ _ (show w.heap.size ≠ g by omega)]; exact a4
  · have e : i ≠ j := by omega
    rw [left_other h2 (by omega) e]; exact h.past i h1 h2 h3
end

set_option maxRecDepth 100000 in
set_option maxHeartbeats 1000000 in
theorem dense8 (F : Interp) (w : World) (hF : F.answers w.tape) (S Bn n bm N : Nat) (D : DataW Unit) (f : Nat → Nat) (hN : Num w S Bn n) (hn : n ≤ 8) (hS : S ≤ w.heap.size) (hm : w.ownsMap Ybaf.prog 9 (plainElem Ybaf.prog 31) bm N D) (hV : VMap D f) :
    Calls Ybaf.prog 8 #[.map (some bm), .pointer (some ⟨Bn, 0, none⟩)] w fun e w' => Kept w w' (fun _ => False) ∧
      (((∀ j, n ≤ j → j < 10 → f j = 0) ∧ ∃ g, e = .returned (.tuple #[.agg #[.pointer (some ⟨Bn, 0, none⟩), .slice (some ⟨g, 0, none⟩) n n], .nilIface]) ∧ Counts w' g n f ∧ w.heap.size ≤ g) ∨
       ((∃ j, n ≤ j ∧ j < 10 ∧ f j ≠ 0) ∧ ∃ a, e = .returned (.tuple #[.agg #[.pointer none, .slice none 0 0], .iface 72 (.pointer (some a))]))) := by
  have hND := fun o : Obj => newDense (w.alloc o) S Bn n (hN.below ((Below.refl S w).alloc hS o)) hn (by simp; omega)
  go_enter Ybaf.func8, Ybaf.ntmps8
  go_upto_region 1 with fail
  go_cut [6] (fun p wx => ∃ Bd g, p = .pointer (some ⟨Bd, 0, none⟩) ∧ wx.heap[Bd]? = some (.cells #[.pointer (some ⟨Bn, 0, none⟩), .slice (some ⟨g, 0, none⟩) n n] 50 (0, 0)) ∧ wx.heap[w.heap.size]? = some (.cells #[.pointer none, .slice none 0 0] 50 (0, 0)) ∧ Counts wx g n (fun _ => 0) ∧ Kept w wx (fun _ => False) ∧ w.heap.size < g)
  case first =>
    go_wp2_with (go_at_call 14; refine (hND _).mono ?_; rintro e w1 ⟨g, rfl, hc1, hg1, hK1⟩)
    go_meet
    case rel =>
      go_light
      have hs1 := hK1.size
      refine ⟨w1.heap.size, g, rfl, ?_, ?_, ?_, ?_, ?_⟩
      · exact heap_alloc_new w1 _
      · rw [Below.heap_alloc _ _ _ (by simp at hs1; omega), hK1.block _ (by simp) (fun h => h)]
        exact heap_alloc_new w _
      · exact hc1.of_block (Below.heap_alloc _ _ _ hc1.lt)
      · exact ((Kept.alloc w _ (fun _ => False)).trans hK1 (fun _ _ h => h)).trans (Kept.alloc _ _ (fun _ => False)) (fun _ _ h => h)
      · simp at hg1; omega
  case rest =>
    obtain ⟨Bd, g, rfl, hbox, hres, hc, hK, hg⟩ := hcut
    clear hND
    have hm1 : wc.ownsMap Ybaf.prog 9 (plainElem Ybaf.prog 31) bm N D := map_block hm (hK.block _ hm.lt (fun h => h))
    go_wp2_with (first
      | (at_range; refine wpList_range_own _ rfl _ 34 rfl 9 31 (Maps.string_keyed Ybaf.underlying9) Ybaf.underlying34 _ bm N _ rfl hm1 ?_; intro w0 hrg0 hg0 hs0)
      | fail)
    go_frame
    have hDI : DI w w0 Bn Bd g n bm wc.heap.size N D f (Maps.has D) (Maps.size D) := by
      have hsz := hK.size
      refine ⟨hrg0, fun _ h => h, (hc.of_block (hg0.block _ hc.lt (by simp))).congr (fun i hi => ?_), hK.trans (Kept.grown hg0 (fun _ => False) (fun b hb => by cases hb)) (fun _ _ h => h), (hg0.block _ (lt_of_block hbox) (by simp)).trans hbox, (hg0.block _ (lt_of_block hres) (by simp)).trans hres, fun j h1 h2 h3 => ?_, hg, hsz⟩
      · by_cases h : Maps.has D (.string (hname i)) = true
        · simp [h]
        · simp only [h]
          exact (hV.absent i (by omega) (by simpa using h)).symm
      · by_cases h : Maps.has D (.string (hname j)) = true
        · exact h
        · exact absurd (hV.absent j h2 (by simpa using h)) h3
    clear hrg0 hg0 hs0 hc hbox hres hm1
    go_loopg [7] (Maps.size D) (fun k s7 wr => ∃ left, DI w wr Bn Bd g n bm wc.heap.size N D f left k)
    case atStart => exact ⟨_, hDI⟩
    case round =>
      obtain ⟨left, hI⟩ := hrel
      clear hDI
      have cb0 : wr.cell? ⟨Bd, 0, none⟩ = some (.pointer (some ⟨Bn, 0, none⟩)) := by simp [World.cell?, hI.box]
      have cb1 : wr.cell? ⟨Bd, 1, none⟩ = some (.slice (some ⟨g, 0, none⟩) n n) := by simp [World.cell?, hI.box]
      have cr0 : wr.cell? ⟨w.heap.size, 0, none⟩ = some (.pointer none) := by simp [World.cell?, hI.res]
      have cr1 : wr.cell? ⟨w.heap.size, 1, none⟩ = some (.slice none 0 0) := by simp [World.cell?, hI.res]
      have fr0 : wr.frozen? ⟨w.heap.size, 0, none⟩ = false := by simp [World.frozen?, hI.res]
      have fr1 : wr.frozen? ⟨w.heap.size, 1, none⟩ = false := by simp [World.frozen?, hI.res]
      go_wp2_with (first
        | (at_next; refine wpList_next_si rfl _ rfl bm wc.heap.size N _ _ _ rfl hI.rng ?_ ?_)
        | fail)
      · intro hl0
        go_wp2
        refine bodyPost_ret (v := .tuple #[.agg #[.pointer (some ⟨Bn, 0, none⟩), .slice (some ⟨g, 0, none⟩) n n], .nilIface]) (by simp [results, Ybaf.results8, go_sem, cr0, cr1]) rfl ⟨?_, .inl ⟨fun j h1 h2 => ?_, g, rfl, ?_, by have := hI.lg; omega⟩⟩
        · exact (hI.kept.trans (Kept.setCell wr ⟨w.heap.size, 0, none⟩ _ (fun b => b = w.heap.size) rfl) (fun x hx e => by omega)).trans (Kept.setCell _ ⟨w.heap.size, 1, none⟩ _ (fun b => b = w.heap.size) rfl) (fun x hx e => by omega)
        · by_cases h3 : f j = 0
          · exact h3
          · have := hI.past j h1 h2 h3
            rw [hl0] at this; cases this
        · have hlg := hI.lg
          refine (hI.cnts.of_block ?_).congr (fun i hi => by simp [hl0])
          rw [Below.heap_setCell _ _ _ _ (show g ≠ w.heap.size by omega), Below.heap_setCell _ _ _ _ (show g ≠ w.heap.size by omega)]
      · intro s c w1 cnt1 hlk hat hrg1 hlt hg1 hen
        obtain ⟨j, hj, hkj⟩ := hV.keys _ (hI.sub _ hlk)
        have hxj : s = ⟨(hname j).toArray⟩ := by
          have h2 := Lit.string.inj hkj
          cases s with
          | mk d => simp only at h2; rw [← h2]
        subst hxj
        have hcj : c = (f j : Int) := by
          have h1 := hat (.lit (.int .u64 0))
          rw [hV.at_ j hj (hI.sub _ hlk)] at h1
          simp at h1
          exact h1.symm
        subst hcj
        obtain ⟨a1, a2, a3, a4⟩ := hI.after hg1
        have hN1 : Num w1 S Bn n := hN.below (a2.below hS (fun _ h => h.elim))
        clear hlk hat hkj
        have cb1' : w1.cell? ⟨Bd, 1, none⟩ = some (.slice (some ⟨g, 0, none⟩) n n) := by simp [World.cell?, a3]
        have cr0' : w1.cell? ⟨w.heap.size, 0, none⟩ = some (.pointer none) := by simp [World.cell?, a4]
        have cr1' : w1.cell? ⟨w.heap.size, 1, none⟩ = some (.slice none 0 0) := by simp [World.cell?, a4]
        have fr0' : w1.frozen? ⟨w.heap.size, 0, none⟩ = false := by simp [World.frozen?, a4]
        have fr1' : w1.frozen? ⟨w.heap.size, 1, none⟩ = false := by simp [World.frozen?, a4]
        clear cb0 cb1 cr0 cr1 fr0 fr1 a3
        have hnum := number15 w1 S Bn n j hN1 hn hj
        by_cases h0 : f j = 0
        · have hz : ((f j : Int) == 0) = true := by simp [h0]
          go_wp2
          go_roundg cnt1
          case measure => go_light; exact hlt
          case rel => go_light; exact ⟨_, hI.zero hn hj hg1 hrg1 h0⟩
        · have hz : ((f j : Int) == 0) = false := by simp [h0]
          by_cases hjn : j < n
          · have hjz : (j : Int) < (n : Int) := by omega
            simp only [hjn, if_true, decide_true] at hnum
            have cg := a1.cell hjn
            have fg := a1.free j
            go_wp2_with (go_at_call 15; refine hnum.mono ?_; rintro e w' ⟨rfl, rfl⟩)
            go_roundg cnt1
            case measure => go_light; exact hlt
            case rel => go_light; exact ⟨_, hI.store hn hjn hg1 hrg1⟩
          · simp only [hjn, if_false, decide_false] at hnum
            have hF1 : F.answers w1.tape := by rw [a2.tape]; exact hF
            go_wp2_with (first | (go_at_call 15; refine hnum.mono ?_; rintro e w' ⟨rfl, rfl⟩) | (go_at_call 16; refine (notNumbered F _ _ (by exact hF1)).mono ?_; rintro e w2 ⟨ae, rfl, hK2⟩; have cr0'' := (hK2.cell ⟨w.heap.size, 0, none⟩ (lt_of_block a4) (fun h => h)).trans cr0'; have cr1'' := (hK2.cell ⟨w.heap.size, 1, none⟩ (lt_of_block a4) (fun h => h)).trans cr1'; have fr0'' := (World.frozen?_of_block (a := ⟨w.heap.size, 0, none⟩) (hK2.block w.heap.size (lt_of_block a4) (fun h => h))).trans fr0'; have fr1'' := (World.frozen?_of_block (a := ⟨w.heap.size, 1, none⟩) (hK2.block w.heap.size (lt_of_block a4) (fun h => h))).trans fr1'))
            refine bodyPost_ret (v := .tuple #[.agg #[.pointer none, .slice none 0 0], .iface 72 (.pointer (some ae))]) (by simp [results, Ybaf.results8, go_sem, cr0'', cr1'']) rfl ⟨?_, .inr ⟨⟨j, by omega, hj, h0⟩, ae, rfl⟩⟩
            exact ((a2.trans hK2 (fun _ _ h => h)).trans (Kept.setCell w2 ⟨w.heap.size, 0, none⟩ _ (fun b => b = w.heap.size) rfl) (fun x hx e => by omega)).trans (Kept.setCell _ ⟨w.heap.size, 1, none⟩ _ (fun b => b = w.heap.size) rfl) (fun x hx e => by omega)

#print axioms dense8
end Go.Proofs.YbulkcgomFmt
