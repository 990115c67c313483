/-
  ParseWireCompact.
-/
import Derived.Test.YbulkcgomFmtGrow
namespace Go.Proofs.YbulkcgomFmt
open Go.RowKit

/-- The bytes W lie at ⟨g, o⟩. -/
def Lies (w : World) (g o : Nat) (W : List UInt8) : Prop := ∀ j (hj : j < W.length), w.cell? ⟨g, o + j, none⟩ = some (.int .u8 (W[j].toNat : Int))
theorem Lies.mid {w : World} {g o : Nat} {W : List UInt8} (h : Lies w g o W) (p q s : List UInt8) (e : W = p ++ (q ++ s)) : Lies w g (o + p.length) q := fun j hj => by
  have h1 := h (p.length + j) (by rw [e]; simp; omega)
  rw [← Nat.add_assoc] at h1
  rw [h1]
  subst e
  congr 3
  rw [List.getElem_append_right (by omega), List.getElem_append_left (by omega)]
  simp
theorem Lies.kept {w w' : World} {g o : Nat} {W : List UInt8} (h : Lies w g o W) (hK : Kept w w' (fun _ => False)) (hg : g < w.heap.size) : Lies w' g o W := fun j hj => (hK.cell _ hg (fun h => h)).trans (h j hj)

/-- What holds at the head of the loop. -/
structure PI (w wr : World) (Bn : Nat) (v : Value) (K : Nat) (es : List Value) : Prop where
  box : wr.heap[w.heap.size]? = some (.cells #[.pointer (some ⟨Bn, 0, none⟩), v] 56 (0, 0))
  res : wr.heap[w.heap.size + 1]? = some (.cells #[.pointer none, .slice none 0 0] 56 (0, 0))
  own : wr.ownsRow (w.heap.size + 2) 60 2 v K es
  kept : Kept w wr (fun _ => False)
  size : w.heap.size + 2 ≤ wr.heap.size

theorem PI.step {w wr w2 : World} {Bn K K' : Nat} {v v' : Value} {es es' : List Value} (h : PI w wr Bn v K es) (hK : Kept wr w2 (fun b => v.ownBlock = some b)) (hown : w2.ownsRow (w.heap.size + 2) 60 2 v' K' es') : PI w (w2.setCell ⟨w.heap.size, 1, none⟩ v') Bn v' K' es' := by
  have hv : ∀ b, v.ownBlock = some b → w.heap.size + 2 ≤ b := fun b hb => (own_is h.own hb).1
  have hv' : ∀ b, v'.ownBlock = some b → w.heap.size + 2 ≤ b := fun b hb => (own_is hown hb).1
  have hs := h.size
  have hs2 := hK.size
  have hb := (hK.block w.heap.size (by omega) (fun e => by have := hv _ e; omega)).trans h.box
  refine ⟨heap_set hb 1 v', ?_, own_block hown fun b hb => Below.heap_setCell _ _ _ _ (fun e => by have := hv' _ hb; simp at e; omega), ?_, by simp; omega⟩
  · rw [Below.heap_setCell _ _ _ _ (by simp)]
    exact (hK.block _ (by omega) (fun e => by have := hv _ e; omega)).trans h.res
  · exact (h.kept.trans hK (fun x hx e => by have := hv _ e; omega)).trans (Kept.setCell w2 ⟨w.heap.size, 1, none⟩ v' (fun b => b = w.heap.size) rfl) (fun x hx e => by omega)

theorem own_base {w : World} {base base' e size : Nat} {v : Value} {n : Nat} {xs : List Value} (h : w.ownsRow base e size v n xs) (hb : base' ≤ base) : w.ownsRow base' e size v n xs := by
  refine ⟨h.1, ?_⟩
  rcases h.2 with h | ⟨g, cap, cur, h1, h2, r⟩
  · exact .inl h
  · exact .inr ⟨g, cap, cur, h1, Nat.le_trans hb h2, r⟩

theorem uv (w : World) (g o M c x l : Nat) (hl : (enc x).length = l) (hx : x < 18446744073709551616) (hlM : l ≤ M) (hMc : M ≤ c) (hcm : c ≤ 9223372036854775807) (hM : M ≤ 1000000) (hL : Lies w g o (enc x)) :
    Calls Ybaf.prog 19 #[.slice (some ⟨g, o, none⟩) M c] w fun e w' => ∃ ad, e = .returned (.tuple #[.int .u64 (x : Int), .slice ad (M - l) (c - l), .bool true]) ∧ (l < c → ad = some ⟨g, o + l, none⟩) ∧ w' = w.drew := by
  subst hl
  exact uvarint19 w g o M c x hx hlM hMc hcm hM hL

set_option maxRecDepth 100000 in
set_option maxHeartbeats 2000000 in
theorem parse10 (w : World) (S Bn n g o c : Nat) (f : Nat → Nat) (hN : Num w S Bn n) (hn : n ≤ 8) (hS : S ≤ w.heap.size) (hf : ∀ i, i < n → f i < 18446744073709551616) (hL : Lies w g o (wire f n)) (hg : g < w.heap.size) (M : Nat) (hM : (wire f n).length = M) (hc : M ≤ c) (hcm : c ≤ 9223372036854775807) :
    Calls Ybaf.prog 10 #[.agg #[.pointer none, .slice none 0 0], .slice (some ⟨g, o, none⟩) M c, .pointer (some ⟨Bn, 0, none⟩)] w fun e w' => ∃ v ad cc, e = .returned (.tuple #[.agg #[.pointer (some ⟨Bn, 0, none⟩), v], .slice ad 0 cc, .nilIface]) ∧ w'.ownsRow w.heap.size 60 2 v (nzc f n) (ents f n) ∧ Kept w w' (fun _ => False) := by
  have hnz := nzc_le f n
  have hwl : M ≤ 200 := by have := enc_length (nzc f n); have := wb_length f n; rw [← hM]; simp [wire]; omega
  have he := enc_length (nzc f n)
  have hwe : M = (enc (nzc f n)).length + (wb f n).length := by rw [← hM]; simp [wire]
  have hW : Hid (wire f n = enc (nzc f n) ++ wb f n) := rfl
  generalize hK : nzc f n = K at hnz he hwe hW ⊢
  generalize hl : (enc K).length = l at he hwe
  have hLH : Hid (Lies w g o (wire f n)) := hL
  have hU : ∀ wx : World, wx.heap.size = wx.heap.size → Lies wx g o (wire f n) → Calls Ybaf.prog 19 #[.slice (some ⟨g, o, none⟩) M c] wx _ := fun wx _ hx => uv wx g o M c K l hl (by omega) (by omega) hc hcm (by omega) (hx.mid [] (enc K) (wb f n) hW.out)
  have hlM : l ≤ M := by omega
  have hKH : Hid (nzc f n = K) := hK
  have hlH : Hid ((enc K).length = l ∧ M = l + (wb f n).length) := ⟨hl, hwe⟩
  clear hL hM hK hl hwe
  go_enter Ybaf.func10, Ybaf.ntmps10
  go_upto_region 2 with fail
  go_cut [1, 9, 10] (fun b x ok wx => ∃ ad, b = .slice ad (M - l) (c - l) ∧ (l < c → ad = some ⟨g, o + l, none⟩) ∧ x = .int .u64 (K : Int) ∧ ok = .bool true ∧ PI w wx Bn (.slice none 0 0) 0 [])
  case first =>
    go_wp2_with (go_at_call 19; refine (hU _ rfl (hLH.out.kept ((Kept.alloc w _ _).trans (Kept.alloc _ _ (fun _ => False)) (fun _ _ h => h)) hg)).mono ?_; rintro e w1 ⟨ad, rfl, had, rfl⟩)
    go_meet
    case rel =>
      go_light
      refine ⟨ad, rfl, had, rfl, rfl, ⟨?_, ?_, World.ownsRow_nil _ _ _ _, ((Kept.alloc w _ _).trans (Kept.alloc _ _ (fun _ => False)) (fun _ _ h => h)).trans (Kept.drew _ (fun _ => False)) (fun _ _ h => h), by simp⟩⟩
      · exact (Below.heap_alloc _ _ _ (by simp)).trans (heap_alloc_new w _)
      · have := heap_alloc_new (w.alloc (.cells #[.pointer (some ⟨Bn, 0, none⟩), .slice none 0 0] 56)) (.cells #[.pointer none, .slice none 0 0] 56)
        have e : (w.alloc (.cells #[.pointer (some ⟨Bn, 0, none⟩), .slice none 0 0] 56)).heap.size = w.heap.size + 1 := by simp
        rw [e] at this
        exact this
  case rest =>
    obtain ⟨ad, rfl, had, rfl, rfl, hP⟩ := hcut
    clear hU
    go_upto_region 5 with fail
    go_cut [] (fun wx => ∃ v, PI w wx Bn v 0 [])
    case first =>
      have cb1 : wc.cell? ⟨w.heap.size, 1, none⟩ = some (.slice none 0 0) := by simp [World.cell?, hP.box]
      have fb1 : wc.frozen? ⟨w.heap.size, 1, none⟩ = false := by simp [World.frozen?, hP.box]
      have hKn : (K : Int) ≤ (n : Int) := by omega
      have hnK : (n < K) = False := by simp; omega
      have hSc : S ≤ wc.heap.size := by have := hP.size; omega
      have hNc : Num wc.drew S Bn n := (hN.below (hP.kept.below hS (fun _ h => h.elim))).below ((Kept.drew wc (fun _ => False)).below hSc (fun _ h => h.elim))
      have hlb := lt_of_block hP.box
      have hwn : IntKind.u64.wrap (n : Int) = (n : Int) := by rw [IntKind.wrap_u64]; omega
      have hwK : IntKind.i64.wrap (K : Int) = (K : Int) := by rw [IntKind.wrap_i64]; omega
      go_region_with (first | (go_at_call 21; refine (len21 _ S Bn n hNc).mono ?_; rintro e w' ⟨rfl, rfl⟩) | (go_at_call 20; (refine (grow20 wc.drew (w.heap.size + 2) K (by omega) hP.size).mono ?_; rintro e w2 ⟨v, rfl, hown2, hK2⟩; obtain ⟨ao, ca, rfl⟩ := own_shape hown2; have cb2 := (hK2.cell ⟨w.heap.size, 1, none⟩ hlb (fun h => h)).trans cb1; have fb2 := (World.frozen?_of_block (a := ⟨w.heap.size, 1, none⟩) (hK2.block w.heap.size hlb (fun h => h))).trans fb1)))
      all_goals
        go_wp2_with fail
        go_meet
        case rel => go_light; exact ⟨_, hP.step (((Kept.drew wc (fun _ => False)).trans hK2 (fun _ _ h => h)).weak (fun _ _ h => h.elim)) hown2⟩
    case rest =>
      obtain ⟨v0, hP0⟩ := hcut
      clear hP
      obtain ⟨i0, hi0, hz0, hz1, hz2⟩ := info_parts Ybaf.info60
      go_wp2_with fail
      go_loopg [1, 11, 41] K (fun gg b nx i wr => ∃ (k : Nat) (v : Value), k ≤ n ∧ nzc f k ≤ K ∧ gg = K - nzc f k ∧ i = .int .u64 (nzc f k : Int) ∧ nx = .int .i64 (k : Int) ∧ gp f k = 0 ∧ (∃ ad, b = .slice ad (M - (l + (wb f k).length)) (c - (l + (wb f k).length)) ∧ (l + (wb f k).length < c → ad = some ⟨g, o + (l + (wb f k).length), none⟩)) ∧ PI w wr Bn v (nzc f k) (ents f k))
      case atStart => exact ⟨0, v0, Nat.zero_le _, Nat.zero_le _, rfl, rfl, rfl, rfl, ⟨ad, rfl, had⟩, hP0⟩
      case round =>
        obtain ⟨k, v, hkn, hkK, rfl, rfl, rfl, hgp, ⟨ad1, rfl, had1⟩, hP1⟩ := hrel
        clear hP0 had
        by_cases hlt : nzc f k < K
        · obtain ⟨j, t, hkj, hjn, hfj, hgp2, hnz2, hwb, hwb2, hents⟩ := next_bytes f hkn (by rw [hKH.out]; exact hlt) hgp
          have hlx := enc_length (f j)
          have hld := enc_length (j - k)
          have hlen : (wb f n).length = (wb f k).length + ((enc (j - k)).length + ((enc (f j)).length + t.length)) := by rw [hwb]; simp
          have hlen2 : (wb f (j + 1)).length = (wb f k).length + ((enc (j - k)).length + (enc (f j)).length) := by rw [hwb2]; simp
          have hMl := hlH.out.2
          have hxj := hf j hjn
          have hL1 : Hid (Lies w g (o + (l + (wb f k).length)) (enc (j - k))) := by
            have h1 := hLH.out.mid (enc K ++ wb f k) (enc (j - k)) (enc (f j) ++ t) (by rw [hW.out, hwb]; simp [List.append_assoc])
            rw [List.length_append, hlH.out.1] at h1; exact h1
          have hL2 : Hid (Lies w g (o + (l + (wb f k).length) + (enc (j - k)).length) (enc (f j))) := by
            have h1 := hLH.out.mid (enc K ++ wb f k ++ enc (j - k)) (enc (f j)) t (by rw [hW.out, hwb]; simp [List.append_assoc])
            rw [List.length_append, List.length_append, hlH.out.1, ← Nat.add_assoc] at h1; exact h1
          obtain rfl := had1 (by omega)
          have hfin : Hid (∀ a, (a = some (⟨g, o + (l + (wb f k).length) + (enc (j - k)).length + (enc (f j)).length, none⟩ : Addr) ) → a = some ⟨g, o + (l + (wb f (j + 1)).length), none⟩) := fun a ha => by rw [ha, hlen2]; congr 2; omega
          have hfM : Hid (M - (l + (wb f k).length) - (enc (j - k)).length - (enc (f j)).length = M - (l + (wb f (j + 1)).length) ∧ c - (l + (wb f k).length) - (enc (j - k)).length - (enc (f j)).length = c - (l + (wb f (j + 1)).length) ∧ (l + (wb f (j + 1)).length < c → (enc (f j)).length < c - (l + (wb f k).length) - (enc (j - k)).length)) := ⟨by omega, by omega, by omega⟩
          have hE : Hid (gp f (j + 1) = 0 ∧ nzc f (j + 1) = nzc f k + 1 ∧ ents f (j + 1) = ents f k ++ [.int .i64 (j : Int), .int .u64 (f j : Int)]) := ⟨hgp2, hnz2, hents⟩
          have hb1 : (enc (j - k)).length + (enc (f j)).length ≤ M - (l + (wb f k).length) := by omega
          have hb2 : M - (l + (wb f k).length) ≤ c - (l + (wb f k).length) := by omega
          have hb3 : c - (l + (wb f k).length) ≤ 9223372036854775807 := by omega
          have hb4 : M - (l + (wb f k).length) ≤ 200 := by omega
          clear hgp2 hnz2 hents hwb hwb2 hlen hlen2 had1 hMl hgp
          generalize M - (l + (wb f k).length) = M1 at hb1 hb2 hb4 hfM ⊢
          generalize c - (l + (wb f k).length) = c1 at hb2 hb3 hfM ⊢
          generalize o + (l + (wb f k).length) = o1 at hL1 hL2 hfin ⊢
          generalize hd : (enc (j - k)).length = ld at hb1 hL2 hfin hfM hld
          generalize hx : (enc (f j)).length = lx at hb1 hfin hfM hlx
          have hdH : Hid ((enc (j - k)).length = ld ∧ (enc (f j)).length = lx) := ⟨hd, hx⟩
          generalize hes : ents f k = es at hP1 hE
          generalize hkk : nzc f k = kk at hP1 hE hlt hkK ⊢
          clear hd hx hes
          have hkkH : Hid (nzc f k = kk) := hkk
          clear hkk
          generalize hxx : f j = x at hfj hxj hL2 hE hdH
          have hxH : Hid (f j = x) := hxx
          clear hxx
          generalize hdd : j - k = d at hL1 hdH
          have hdn : d < n - k := by omega
          have hdj : (k : Int) + (d : Int) = (j : Int) := by omega
          clear hdd
          have hz : ((x : Int) == 0) = false := by simp [hfj]
          have hltz : (kk : Int) < (K : Int) := by omega
          go_upto_region 11 with (go_at_call 19; refine (uv wr g o1 M1 c1 d ld hdH.out.1 (by omega) (by omega) hb2 hb3 (by omega) (hL1.out.kept hP1.kept hg)).mono ?_; rintro e w1 ⟨ad2, rfl, had2, rfl⟩)
          obtain rfl := had2 (by omega)
          have hSr : S ≤ wr.heap.size := by have := hP1.size; omega
          have hNr : Num wr.drew S Bn n := (hN.below (hP1.kept.below hS (fun _ h => h.elim))).below ((Kept.drew wr (fun _ => False)).below hSr (fun _ h => h.elim))
          have hwd : IntKind.i64.wrap (d : Int) = (d : Int) := by rw [IntKind.wrap_i64]; omega
          have hwnk : IntKind.i64.wrap ((n : Int) - (k : Int)) = (n : Int) - (k : Int) := by rw [IntKind.wrap_i64]; omega
          have hwnk2 : IntKind.u64.wrap ((n : Int) - (k : Int)) = (n : Int) - (k : Int) := by rw [IntKind.wrap_u64]; omega
          have hdl : ¬ ((n : Int) - (k : Int) ≤ (d : Int)) := by omega
          go_upto_region 14 with (go_at_call 21; refine (len21 _ S Bn n hNr).mono ?_; rintro e w' ⟨rfl, rfl⟩)
          go_upto_region 19 with (go_at_call 19; refine (uv _ g (o1 + ld) (M1 - ld) (c1 - ld) x lx hdH.out.2 hxj (by omega) (by omega) (by omega) (by omega) (hL2.out.kept (hP1.kept.trans (Kept.drew wr (fun _ => False)) (fun _ _ h => h)) hg)).mono ?_; rintro e w1 ⟨ad3, rfl, had3, rfl⟩)
          have cb1 : wr.cell? ⟨w.heap.size, 1, none⟩ = some v := by simp [World.cell?, hP1.box]
          have hlb := lt_of_block hP1.box
          have hPs := hP1.size
          have hownr : wr.drew.drew.ownsRow (w.heap.size + 2) 60 2 v kk es := hP1.own
          obtain ⟨va, vc, hve⟩ := own_shape hP1.own
          have hvb : Hid (v = .slice va kk vc) := hve
          have hnew := heap_alloc_new wr.drew.drew (.cells #[.int .i64 (j : Int), .int .u64 (x : Int)] 60)
          have hB : Hid (∀ w4 : World, (wr.drew.drew.alloc (.cells #[.int .i64 (j : Int), .int .u64 (x : Int)] 60)).grownBy w4 v.ownBlock → (w4.frozen? ⟨w.heap.size, 1, none⟩ = false ∧ w4.cell? ⟨w.heap.size, 1, none⟩ = some v) ∧ Kept wr w4 (fun b => v.ownBlock = some b)) := fun w4 h4 => by
            have hK4 : Kept wr w4 (fun b => v.ownBlock = some b) := (((Kept.drew wr _).trans (Kept.drew _ (fun _ => False)) (fun _ _ h => h.elim)).trans (Kept.alloc _ _ (fun _ => False)) (fun _ _ h => h.elim)).trans (Kept.grown h4 (fun b => v.ownBlock = some b) (fun b hb => hb)) (fun _ _ h => h)
            refine ⟨?_, hK4⟩
            have hbx := (hK4.block w.heap.size hlb (fun e => by have := (own_is hP1.own e).1; omega)).trans hP1.box
            simp [World.frozen?, World.cell?, hbx]
          clear hve
          go_wp2_with (at_builtin; refine wpList_append_lies _ rfl _ _ _ rfl (w.heap.size + 2) 60 i0 _ 2 16 Ybaf.underlying54 hi0 hz0 hz1 hz2 rfl (by omega) v kk es rfl (hownr.alloc _) ⟨wr.heap.size, 0, none⟩ 1 1 [.int .i64 (j : Int), .int .u64 (x : Int)] rfl rfl (World.news_of_block (cs := #[.int .i64 (j : Int), .int .u64 (x : Int)]) (t := 60) (fr := (0, 0)) hnew) (by simp [Value.oneCell']) (by omega) (by unfold maxLen; omega) (by omega) (by simp; omega) (wr.heap.size + 1) (by simp) ?_; intro gg gc w4 hown4 hgrow4 hat4 hg4; obtain ⟨fb4, cb4⟩ := (hB.out w4 hgrow4).1)
          go_roundg (K - (kk + 1))
          case measure => go_light; have := hkkH.out; omega
          case rel =>
            go_light
            refine ⟨j + 1, .slice (some ⟨gg, 0, none⟩) (kk + 1) gc, by omega, by rw [hE.out.2.1]; omega, by rw [hE.out.2.1], by rw [hE.out.2.1]; go_num, by go_num, hE.out.1, ⟨ad3, by rw [← hfM.out.1, ← hfM.out.2.1], fun h => ?_⟩, ?_⟩
            · exact hfin.out _ (by rw [had3 (hfM.out.2.2 h)])
            · rw [hE.out.2.1, hE.out.2.2]
              exact hP1.step (hB.out w4 hgrow4).2 hown4
        · have hkk : nzc f k = K := by omega
          have hltz : ¬ ((nzc f k : Int) < (K : Int)) := by omega
          obtain ⟨a1, a2⟩ := nzc_full f hkn (hkk.trans hKH.out.symm)
          have cb0 : wr.cell? ⟨w.heap.size, 0, none⟩ = some (.pointer (some ⟨Bn, 0, none⟩)) := by simp [World.cell?, hP1.box]
          have cb1 : wr.cell? ⟨w.heap.size, 1, none⟩ = some v := by simp [World.cell?, hP1.box]
          have cr0 : wr.cell? ⟨w.heap.size + 1, 0, none⟩ = some (.pointer none) := by simp [World.cell?, hP1.res]
          have cr1 : wr.cell? ⟨w.heap.size + 1, 1, none⟩ = some (.slice none 0 0) := by simp [World.cell?, hP1.res]
          have fr0 : wr.frozen? ⟨w.heap.size + 1, 0, none⟩ = false := by simp [World.frozen?, hP1.res]
          have fr1 : wr.frozen? ⟨w.heap.size + 1, 1, none⟩ = false := by simp [World.frozen?, hP1.res]
          have hA : Hid (M - (l + (wb f k).length) = 0 ∧ ents f k = ents f n ∧ nzc f k = K) := ⟨by rw [a1, ← hlH.out.2]; omega, a2, hkk⟩
          clear a1 a2 hkk had1
          generalize M - (l + (wb f k).length) = M1 at hA ⊢
          generalize c - (l + (wb f k).length) = c1
          generalize nzc f k = kk at hA hP1 hltz ⊢
          obtain ⟨va, vc, rfl⟩ := own_shape hP1.own
          go_wp2
          have hk0 := hP1.kept
          refine bodyPost_ret (v := .tuple #[.agg #[.pointer (some ⟨Bn, 0, none⟩), .slice va kk vc], .slice ad1 M1 c1, .nilIface]) (by simp [results, Ybaf.results10, go_sem, cr0, cr1]) rfl ⟨.slice va kk vc, ⟨ad1, c1, by rw [hA.out.1]⟩, ?_, ?_⟩
          · rw [← hA.out.2.1, ← hA.out.2.2]
            refine own_block (own_base hP1.own (by omega)) fun b hb => ?_
            have h3 := (own_is hP1.own hb).1
            rw [Below.heap_setCell _ _ _ _ (show b ≠ w.heap.size + 1 by omega), Below.heap_setCell _ _ _ _ (show b ≠ w.heap.size + 1 by omega)]
          · exact (hk0.trans (Kept.setCell wr ⟨w.heap.size + 1, 0, none⟩ _ (fun b => b = w.heap.size + 1) rfl) (fun x hx e => by omega)).trans (Kept.setCell _ ⟨w.heap.size + 1, 1, none⟩ _ (fun b => b = w.heap.size + 1) rfl) (fun x hx e => by omega)

end Go.Proofs.YbulkcgomFmt
