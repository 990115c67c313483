/-
  The law's walk.
-/
import Derived.Test.YbulkcgomFmtLaw0
import Derived.BigQuiet
namespace Go.Proofs.YbulkcgomFmt
open Go.RowKit Go.Extern.Stop Go.Stop Go.Extern

theorem nil_eq (x : World) : (binOp BinOp.eql 23 (.slice none 0 0) (.slice none 0 0)).run Ybaf.prog x = .ok (.bool true) x := by kernel_rfl

theorem start {W w1 : World} {n Bn : Nat} (hN : Num w1 w1.heap.size Bn n) (hK : Kept (W.alloc (.cells namesA 24)) w1 (fun _ => False)) :
    LI W w1 ((w1.alloc (.cells #[.int .u64 0, .int .u64 0, .int .u64 0, .int .u64 0, .int .u64 0, .int .u64 0, .int .u64 0, .int .u64 0, .int .u64 0, .int .u64 0] 32)).alloc (.map #[] 0)) n Bn W.heap.size w1.heap.size (w1.heap.size + 1) 0 (.map []) (fun _ => 0) := by
  have hs := hK.size
  simp only [World.size_alloc] at hs
  have hK1 : Kept W w1 (fun _ => False) := (Kept.alloc W _ (fun _ => False)).trans hK (fun _ _ h => h)
  have h2 : ∀ o : Obj, Kept w1 ((w1.alloc o).alloc (.map #[] 0)) (fun _ => False) := fun o => (Kept.alloc w1 o (fun _ => False)).trans (Kept.alloc _ _ (fun _ => False)) (fun _ _ h => h)
  refine ⟨hN.below ((h2 _).below (Nat.le_refl _) (fun _ h => h.elim)), ?_, ?_, ?_, Maps.tidy_empty, VMap.start, hK1.trans (h2 _) (fun _ _ h => h), Nat.le_refl _, Nat.le_succ _, by omega, by simp; omega, fun _ _ => by decide⟩
  · rw [(h2 _).block _ (by omega) (fun h => h), hK.block _ (by simp) (fun h => h)]
    exact heap_alloc_new W _
  · refine ⟨_, (Below.heap_alloc _ _ _ (by simp)).trans (heap_alloc_new w1 _), rfl, fun i hi => ?_⟩
    match i, hi with
    | 0, _ => rfl
    | 1, _ => rfl
    | 2, _ => rfl
    | 3, _ => rfl
    | 4, _ => rfl
    | 5, _ => rfl
    | 6, _ => rfl
    | 7, _ => rfl
    | 8, _ => rfl
    | 9, _ => rfl
  · have := World.ownsMap_made (H := Unit) (w1.alloc (.cells #[.int .u64 0, .int .u64 0, .int .u64 0, .int .u64 0, .int .u64 0, .int .u64 0, .int .u64 0, .int .u64 0, .int .u64 0, .int .u64 0] 32)) Ybaf.prog 9 (plainElem Ybaf.prog 31)
    simpa using this

set_option maxRecDepth 100000 in
set_option maxHeartbeats 1000000 in
theorem walk (F : Interp) (W : World) (hF : F.answers W.tape) (z : Nat) (hz : z ≤ 255) (a1 : Option Addr) (le c1 : Nat) (ys xs : Nat → Nat) (hle : le ≤ maxLen)
    (he : ∀ i, i < le → ∃ b off, a1 = some ⟨b, off, none⟩ ∧ W.cell? ⟨b, off + i * 2, none⟩ = some (.int .u8 (ys i : Int)) ∧ W.cell? ⟨b, off + i * 2 + 1, none⟩ = some (.int .u64 (xs i : Int))) (hy : ∀ i, i < le → ys i ≤ 255 ∧ xs i < 18446744073709551616)
    (a2 : Option Addr) (lb c2 : Nat) (bs : List UInt8) (hlb : lb ≤ maxLen) (hbl : bs.length = lb) (hb : (lb = 0 ∧ ((a2 = none ∧ c2 = 0) ∨ ∃ ad, a2 = some ad)) ∨ ∃ b off, a2 = some ⟨b, off, none⟩ ∧ Lies W b off bs ∧ b < W.heap.size) :
    Calls Ybaf.prog 3 #[.int .u8 (z : Int), .slice a1 le c1, .slice a2 lb c2] W fun e w' => e = .returned (.bool true) ∧ Below W.heap.size W w' := by
  have hmax : maxLen = 9223372036854775807 := rfl
  rw [hmax] at hle hlb
  by_cases hl1 : 1024 < le
  · have hz1 : (1024 : Int) < (le : Int) := by omega
    clear he hy hb
    go_enter Ybaf.func3, Ybaf.ntmps3
    go_wp2
    go_ret
    exact ⟨rfl, Below.refl _ _⟩
  by_cases hl2 : 1024 < lb
  · have hz1 : ¬ ((1024 : Int) < (le : Int)) := by omega
    have hz2 : (1024 : Int) < (lb : Int) := by omega
    clear he hy hb
    go_enter Ybaf.func3, Ybaf.ntmps3
    go_wp2
    go_ret
    exact ⟨rfl, Below.refl _ _⟩
  have hz1 : ¬ ((1024 : Int) < (le : Int)) := by omega
  have hz2 : ¬ ((1024 : Int) < (lb : Int)) := by omega
  obtain ⟨n, hn9, hn⟩ : ∃ n : Nat, (z : Int) % 9 = (n : Int) ∧ n ≤ 8 := ⟨z % 9, by omega, by omega⟩
  have hn10 : (n : Int) ≤ 10 := by omega
  have hbH : Hid ((lb = 0 ∧ ((a2 = none ∧ c2 = 0) ∨ ∃ ad, a2 = some ad)) ∨ ∃ b off, a2 = some ⟨b, off, none⟩ ∧ Lies W b off bs ∧ b < W.heap.size) := hb
  have hNN : ∀ o : Obj, o = .cells namesA 24 → Calls Ybaf.prog 4 #[.slice (some ⟨W.heap.size, 0, none⟩) n 10] (W.alloc o) fun e w' => ∃ Bn, e = .returned (.tuple #[.pointer (some ⟨Bn, 0, none⟩), .nilIface]) ∧ Num w' w'.heap.size Bn n ∧ Kept (W.alloc o) w' (fun _ => False) := fun o ho => by
    subst ho
    exact newNumbering _ W.heap.size 10 n hn (fun j hj => names_cell (heap_alloc_new W _) (by omega))
  clear hb
  have hmm : ∀ (x : World), (Instr.makeMap 34 none).run Ybaf.prog x = .ok (.map (some x.heap.size)) (x.alloc (.map #[] 0)) := fun x => by
    simp [Instr.makeMap]
  go_enter Ybaf.func3, Ybaf.ntmps3
  go_upto_region 10 with (go_at_call 4; refine (hNN _ rfl).mono ?_; rintro e w1 ⟨Bn, rfl, hN1, hK1⟩)
  have hI0 : LI W w1 ((w1.alloc (.cells #[.int .u64 0, .int .u64 0, .int .u64 0, .int .u64 0, .int .u64 0, .int .u64 0, .int .u64 0, .int .u64 0, .int .u64 0, .int .u64 0] 32)).alloc (.map #[] 0)) n Bn W.heap.size w1.heap.size (w1.heap.size + 1) 0 (.map []) (fun _ => 0) := start hN1 hK1
  generalize ((w1.alloc (.cells #[.int .u64 0, .int .u64 0, .int .u64 0, .int .u64 0, .int .u64 0, .int .u64 0, .int .u64 0, .int .u64 0, .int .u64 0, .int .u64 0] 32)).alloc (.map #[] 0)) = wA at hI0 ⊢
  generalize hBf : w1.heap.size = Bf at hI0 ⊢
  generalize hbm : Bf + 1 = bm at hI0 ⊢
  have hne : ¬ W.heap.size = Bf := by have := hK1.size; simp at this; omega
  have hne2 : ¬ Bf = W.heap.size := fun e => hne e.symm
  clear hNN hmm hK1 hN1 hBf hbm hn9 hn10
  go_upto_block 0 with fail
  go_cut [] (fun wx => ∃ N D f, LI W w1 wx n Bn W.heap.size Bf bm N D f)
  case first =>
    go_wp2_with fail
    go_loopg [50] le (fun gg i wr => ∃ k : Nat, k ≤ le ∧ gg = le - k ∧ i = .int .i64 (k : Int) ∧ ∃ N D f, N ≤ k ∧ LI W w1 wr n Bn W.heap.size Bf bm N D f)
    case atStart => exact ⟨0, Nat.zero_le _, rfl, rfl, 0, _, _, Nat.le_refl _, hI0⟩
    case round =>
      obtain ⟨k, hk, rfl, rfl, N, D, f, hNk, hI⟩ := hrel
      clear hI0
      by_cases hkn : k < le
      · have hkz : (k : Int) < (le : Int) := by omega
        obtain ⟨be, oe, rfl, hc0, hc1⟩ := he k hkn
        obtain ⟨hyk, hxk⟩ := hy k hkn
        have hlt0 : be < W.heap.size := World.block_lt_of_cell? _ _ hc0
        have hd0 : wr.cell? ⟨be, oe + k * 2, none⟩ = some (.int .u8 (ys k : Int)) := (hI.kept.cell ⟨be, oe + k * 2, none⟩ hlt0 (fun h => h)).trans hc0
        have hd1 : wr.cell? ⟨be, oe + k * 2 + 1, none⟩ = some (.int .u64 (xs k : Int)) := (hI.kept.cell ⟨be, oe + k * 2 + 1, none⟩ hlt0 (fun h => h)).trans hc1
        clear hc0 hc1 he hy
        generalize ys k = y at hd0 hyk
        generalize xs k = x at hd1 hxk
        obtain ⟨j, hj10, hj⟩ : ∃ j : Nat, (y : Int) % 10 = (j : Int) ∧ j < 10 := ⟨y % 10, by omega, by omega⟩
        have hjz : (j : Int) < 10 := by omega
        have hcN := names_cell hI.names hj
        have hcA := hI.arr.cell hj
        have hfA := hI.arr.free j
        have hkey := key_str (s := hname j) (by simp [hname, maxLen])
        have hma : ((wr.setCell ⟨Bf, j, none⟩ (.int .u64 (x : Int))).alloc (.cells #[.int .u8 (y : Int), .int .u64 (x : Int)] 36)).drew.ownsMap Ybaf.prog 9 (plainElem Ybaf.prog 31) bm N D := by
          have h1 : (wr.setCell ⟨Bf, j, none⟩ (.int .u64 (x : Int))).ownsMap Ybaf.prog 9 (plainElem Ybaf.prog 31) bm N D := by
            refine map_block hI.map (Below.heap_setCell _ _ _ _ (fun e => ?_))
            have e' : bm = Bf := e
            subst e'
            obtain ⟨es, cl, h1⟩ := map_is hI.map
            obtain ⟨cur, h2, _⟩ := hI.arr
            rw [h1] at h2; cases h2
          exact (h1.alloc _).drew
        obtain ⟨w3, hrun, hown', hgrow'⟩ := hma.update (Maps.string_keyed Ybaf.underlying9) Ybaf.underlying34 (by unfold maxLen; omega) hkey (plainElem_int (H := Unit) (a := (x : Int)) Ybaf.underlying31 (WalkArith.wf_u64 ⟨by omega, by omega⟩))
        have hfin := hI.put hj hxk rfl hown' hgrow'
        have hlr := hI.arr.lt
        have hlN := lt_of_block hI.names
        clear hma hown' hgrow' hkey
        generalize (hname j).toArray = sj at hrun hcN
        generalize f j = fj at hcA
        go_upto_region 15 with fail
        go_region
        all_goals
          go_wp2_with fail
          go_roundg (le - (k + 1))
          case measure => go_light; omega
          case rel => go_light; exact ⟨k + 1, by omega, rfl, by go_num, N + 1, _, _, by omega, hfin⟩
      · have hkz : ¬ ((k : Int) < (le : Int)) := by omega
        go_wp2
        go_meet
        case rel => go_light; exact ⟨N, D, f, hI⟩
  case rest =>
    obtain ⟨N, D, f, hI⟩ := hcut
    clear hI0 he hy
    go_upto_block 2 with fail
    go_cut [16, 17] (fun b c wx => wc = wx ∧ b = .bool (bk f n 10) ∧ c = .int .i64 (nzc f n : Int))
    case first =>
      go_wp2_with fail
      go_loopg [16, 17, 18] 10 (fun gg b c i wr => wc = wr ∧ ∃ k : Nat, k ≤ 10 ∧ gg = 10 - k ∧ i = .int .i64 (k : Int) ∧ b = .bool (bk f n k) ∧ c = .int .i64 (nzc f (min k n) : Int))
      case atStart => exact ⟨rfl, 0, Nat.zero_le _, rfl, rfl, rfl, by rw [Nat.zero_min]; rfl⟩
      case round =>
        obtain ⟨rfl, k, hk, rfl, rfl, rfl, rfl⟩ := hrel
        have hnzk := nzc_le f (min k n)
        have hmk : min k n ≤ k := Nat.min_le_left _ _
        by_cases hkn : k < 10
        · have hkz : (k : Int) < 10 := by omega
          have hcA := hI.arr.cell hkn
          by_cases h0 : f k = 0
          · have hz : ((f k : Int) == 0) = true := by simp [h0]
            go_wp2
            have hcc : Hid (nzc f (min (k + 1) n) = nzc f (min k n)) := by
              show _ = _
              by_cases hnk : n ≤ k
              · rw [Nat.min_eq_right hnk, Nat.min_eq_right (by omega)]
              · rw [Nat.min_eq_left (by omega), Nat.min_eq_left (by omega)]; simp [nzc, h0]
            go_roundg (10 - (k + 1))
            case measure => go_light; omega
            case rel => go_light; exact ⟨rfl, k + 1, by omega, rfl, by go_num, by simp [bk, h0], by rw [hcc.out]⟩
          · have hz : ((f k : Int) == 0) = false := by simp [h0]
            by_cases hnk : n ≤ k
            · have hnz : (n : Int) ≤ (k : Int) := by omega
              go_wp2
              go_roundg (10 - (k + 1))
              case measure => go_light; omega
              case rel => go_light; exact ⟨rfl, k + 1, by omega, rfl, by go_num, by simp [bk, h0, hnk], by rw [Nat.min_eq_right hnk, Nat.min_eq_right (show n ≤ k + 1 by omega)]⟩
            · have hnz : ¬ ((n : Int) ≤ (k : Int)) := by omega
              go_wp2
              go_roundg (10 - (k + 1))
              case measure => go_light; omega
              case rel => go_light; exact ⟨rfl, k + 1, by omega, rfl, by go_num, by simp [bk, hnk], by rw [Nat.min_eq_left (show k ≤ n by omega), Nat.min_eq_left (show k + 1 ≤ n by omega)]; simp [nzc, h0]⟩
        · have hkz : ¬ ((k : Int) < 10) := by omega
          obtain rfl : k = 10 := by omega
          go_wp2
          go_meet
          case rel => go_light; exact ⟨rfl, rfl, by rw [Nat.min_eq_right (show n ≤ 10 by omega)]⟩
    case rest =>
      obtain ⟨rfl, rfl, rfl⟩ := hcut
      have hbb : (lb = 0 ∧ ((a2 = none ∧ c2 = 0) ∨ ∃ ad, a2 = some ad)) ∨ ∃ b off, a2 = some ⟨b, off, none⟩ ∧ Lies wc b off bs := by
        rcases hbH.out with h | ⟨b, off, h1, h2, h3⟩
        · exact .inl h
        · exact .inr ⟨b, off, h1, h2.kept hI.kept h3⟩
      obtain ⟨v, w2, hrun, hown2, hgrow2⟩ := copy_run wc wc.heap.size a2 bs lb c2 hbl (Nat.le_refl _) (by omega) hbb
      have hK2 : Kept wc w2 (fun _ => False) := Kept.grown hgrow2 _ (fun b hb => by cases hb)
      have hI2 := hI.keep hK2
      have hA5 := appendWire5 F w2 (by rw [hK2.tape, hI.kept.tape]; exact hF) w1.heap.size Bn n bm N D f hI2.num hn hI2.sz hI2.map hI2.vmap hI2.fits wc.heap.size v lb (bv bs) hown2 hK2.size (by omega)
      obtain ⟨va, vc, rfl⟩ := own_shape hown2
      clear hgrow2 hbb
      go_upto_region 27 with (at_builtin; refine Lib.wpList_append_run _ rfl _ _ _ _ rfl _ _ rfl rfl _ _ hrun ?_)
      have hKall : ∀ w3, Kept w2 w3 (fun b => (Value.slice va lb vc).ownBlock = some b) → Kept wc w3 (fun _ => False) := fun w3 h3 => hK2.trans h3 (fun x hx e => by have := (own_is hown2 e).1; omega)
      go_upto_region 28 with (go_at_call 5; refine hA5.mono ?_; rintro e w3 ⟨hK3, (⟨hgood, v', rfl, hown3, hloc3⟩ | ⟨hbad, ae, rfl⟩)⟩)
      · have hbk : bk f n 10 = false := by
          cases h : bk f n 10 with
          | false => rfl
          | true =>
            obtain ⟨j, h1, h2, h3⟩ := (bk_true f n 10).1 h
            exact absurd (hgood j h1 h2) h3
        have hK3' := hKall w3 hK3
        have hI3 := hI.keep hK3'
        have hen := enc_length (nzc f n)
        have hwl : (wire f n).length ≤ 200 ∧ 1 ≤ (wire f n).length := by have := wb_length f n; simp [wire]; omega
        obtain ⟨gv, cv, rfl, _, _⟩ := hown3.form (by omega)
        obtain ⟨hcv, hcv2⟩ := own_cap hown3
        have hL3 : Lies w3 gv 0 (bs ++ wire f n) := fun j hj => by
          have := hown3.cells (g := gv) rfl j (.int .u8 ((bs ++ wire f n)[j].toNat : Int)) (by rw [← bv_append, bv_get _ hj])
          rw [Addr.add_lit] at this; exact this
        have hgv : gv < w3.heap.size := (hown3.lt gv rfl).2
        have hbb3 : (lb = 0 ∧ ((a2 = none ∧ c2 = 0) ∨ ∃ ad, a2 = some ad)) ∨ ∃ b off, a2 = some ⟨b, off, none⟩ ∧ Lies w3 b off bs := by
          rcases hbH.out with h | ⟨b, off, h1, h2, h3⟩
          · exact .inl h
          · exact .inr ⟨b, off, h1, (h2.kept hI.kept h3).kept hK3' (Nat.lt_of_lt_of_le h3 hI.kept.size)⟩
        have hLw : Hid (Lies w3 gv lb (wire f n)) := by
          have := hL3.mid bs (wire f n) [] (by simp)
          rw [hbl, Nat.zero_add] at this; exact this
        have hLb : Lies w3 gv 0 bs := hL3.mid [] bs (wire f n) rfl
        generalize hMw : (wire f n).length = Mw at hwl hown3 hcv
        have hMH : Hid ((wire f n).length = Mw) := hMw
        have hlt1 : ¬ ((lb : Int) + (Mw : Int) < (lb : Int)) := by omega
        clear hA5 hMw hown3 hL3 hloc3 hK3 hI hrun hK2 hI2 hown2 hKall hen
        rw [hbk]
        clear hbk
        go_upto_block 4 with fail
        go_cut [] (fun wx => Kept w3 wx (fun _ => False))
        case first =>
          go_wp2_with fail
          go_loopg [21] lb (fun gg i wr => Kept w3 wr (fun _ => False) ∧ ∃ k : Nat, k ≤ lb ∧ gg = lb - k ∧ i = .int .i64 (k : Int))
          case atStart => exact ⟨Kept.refl _ _, 0, Nat.zero_le _, rfl, rfl⟩
          case round =>
            obtain ⟨hKr, k, hk, rfl, rfl⟩ := hrel
            by_cases hkn : k < lb
            · have hkz : (k : Int) < (lb : Int) := by omega
              have hkz2 : (k : Int) < (lb : Int) + (Mw : Int) := by omega
              rcases hbb3 with ⟨h0, _⟩ | ⟨bb, ob, rfl, hLb2⟩
              · omega
              · have hq0 := (hLb.kept hKr hgv) k (by omega)
                have hq1 := (hLb2.kept hKr (World.block_lt_of_cell? _ _ (hLb2 k (by omega)))) k (by omega)
                rw [Nat.zero_add] at hq0
                generalize (bs[k].toNat : Int) = q at hq0 hq1
                go_upto_region 37 with fail
                go_region
                all_goals
                  go_wp2_with fail
                  go_roundg (lb - (k + 1))
                  case measure => go_light; omega
                  case rel => go_light; exact ⟨hKr.trans (Kept.drew _ (fun _ => False)) (fun _ _ h => h), k + 1, by omega, rfl, by go_num⟩
            · have hkz : ¬ ((k : Int) < (lb : Int)) := by omega
              go_wp2
              go_meet
              case rel => go_light; exact hKr
        case rest =>
          have hI4 := hI3.keep hcut
          have hcv3 : lb + Mw ≤ cv ∧ cv ≤ 9223372036854775807 := ⟨hcv, by omega⟩
          have hP6 := parse6 wc w1.heap.size Bn n gv lb (cv - lb) f hI4.num hn hI4.sz (fun i hi => hI4.fits i (by omega)) (hLw.out.kept hcut hgv) (Nat.lt_of_lt_of_le hgv hcut.size) Mw hMH.out (by omega) (by omega)
          have hs1 : (lb : Int) ≤ (lb : Int) + (Mw : Int) := by omega
          have hs2 : (lb : Int) + (Mw : Int) ≤ (cv : Int) := by omega
          have hs3 : ¬ ((cv : Int) = (lb : Int)) := by omega
          have hs4 : lb + Mw - lb = Mw := by omega
          go_upto_region 40 with (go_at_call 6; refine hP6.mono ?_; rintro e w4 ⟨b6, ad6, cc6, rfl, hm6, hb6, hK6⟩)
          have hI6 := hI4.keep hK6
          have hlen : ∀ ty, (Builtin.len_ #[34] ty #[.map (some b6)]).run Ybaf.prog w4 = .ok (.int .i64 (nzc f n : Int)) w4 := fun ty => by
            have := hm6.len Ybaf.underlying34 ty
            rw [vmD_size f n (by omega)] at this; exact this
          have hH : Hid (w4.ownsMap Ybaf.prog 9 (plainElem Ybaf.prog 31) b6 (nzc f n) (vmD f n)) := hm6
          have hnzn := nzc_le f n
          generalize hcnt : nzc f n = cnt at hlen hnzn ⊢
          have hcH : Hid (nzc f n = cnt) := hcnt
          clear hm6 hcnt hP6 hI3 hI4
          go_upto_block 6 with (at_builtin; refine wpList_lenMap (by rfl) _ _ rfl _ rfl _ hlen ?_)
          go_wp2_with fail
          go_loopg [24] n (fun gg i wr => w4 = wr ∧ ∃ k : Nat, k ≤ n ∧ gg = n - k ∧ i = .int .i64 (k : Int))
          case atStart => exact ⟨rfl, 0, Nat.zero_le _, rfl, rfl⟩
          case round =>
            obtain ⟨rfl, k, hk, rfl, rfl⟩ := hrel
            by_cases hkn : k < n
            · have hkz : (k : Int) < (n : Int) := by omega
              have hkz2 : (k : Int) < 10 := by omega
              have hcA := hI6.arr.cell (show k < 10 by omega)
              have hcN := names_cell hI6.names (show k < 10 by omega)
              have hfk := hI6.fits k (by omega)
              by_cases h0 : f k = 0
              · have hzz : ((f k : Int) == 0) = true := by simp [h0]
                go_wp2
                go_roundg (n - (k + 1))
                case measure => go_light; omega
                case rel => go_light; exact ⟨rfl, k + 1, by omega, rfl, by go_num⟩
              · have hzz : ((f k : Int) == 0) = false := by simp [h0]
                have hlk := look_vm hH.out (show n ≤ 10 by omega) hkn h0
                generalize (hname k).toArray = sk at hcN hlk
                generalize f k = x at hcA hfk h0 hzz hlk
                go_wp2
                go_roundg (n - (k + 1))
                case measure => go_light; omega
                case rel => go_light; exact ⟨rfl, k + 1, by omega, rfl, by go_num⟩
            · have hkz : ¬ ((k : Int) < (n : Int)) := by omega
              go_wp2
              go_ret
              exact ⟨rfl, hI6.kept.below (Nat.le_refl _) (fun _ h => h.elim)⟩
      · have hbk : bk f n 10 = true := by
          obtain ⟨j, h1, h2, h3⟩ := hbad
          exact (bk_true f n 10).2 ⟨j, h1, h2, h3⟩
        rw [hbk]
        clear hbk
        have hnil := nil_eq
        go_wp2
        go_ret
        exact ⟨rfl, (hI.kept.trans (hKall _ hK3) (fun _ _ h => h)).below (Nat.le_refl _) (fun _ h => h.elim)⟩

end Go.Proofs.YbulkcgomFmt
