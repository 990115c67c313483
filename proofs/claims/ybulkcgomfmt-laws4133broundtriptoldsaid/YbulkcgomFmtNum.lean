/-
  The numbering: its memory; NewNumbering, Len, Name, Number, NewDense.
-/
import Derived.Test.YbulkcgomFmtBase
import Derived.Deep.RegionLaw
import Derived.Deep.DeepCutAuto
import Derived.Deep.CutBlock
import Derived.Deep.OwnRows
import Derived.Deep.Light
import Derived.Outline
namespace Go.Proofs.YbulkcgomFmt
open Go.RowKit

theorem zero3 (w : World) : (zeroValue 3).run Ybaf.prog w = .ok (.int .i64 0) w := by rfl
theorem Ybaf.info9 : (Ybaf.prog.info? 9).map (fun i => (i.zero, i.size, i.bytes)) = some (some (.string ⟨#[]⟩), 1, 16) := by kernel_rfl
theorem Ybaf.info31 : (Ybaf.prog.info? 31).map (fun i => (i.zero, i.size, i.bytes)) = some (some (.int .u64 0), 1, 8) := by kernel_rfl
theorem key_str {s : List UInt8} (h : s.length ≤ maxLen) : keyOf Ybaf.prog 9 (.string ⟨s.toArray⟩) = some (.string s) := by
  simpa using WideMaps.keyOf_string_mk (P := Ybaf.prog) Ybaf.underlying9 (s := ⟨s.toArray⟩) (by simpa [ByteArray.size] using h)

/-- append AT A STEP OF A REGION THAT DRAWS, whatever is appended (nothing too). -/
theorem step_append_any {P : Program} {w : World} {ops : Array Oper} {o : Oper} {a : Act} {K : Act → World → Prop} {Q : Exit → Act → World → Prop} {E : Prop} (hgd : o.guard = none) (s x : Operand) (t : TypeId)
    (ho : o.op = .call { callee := .builtin .append, args := #[s, x], argTypes := #[t, t] })
    (base : Nat) (e : TypeId) (i : TypeInfo) (z : Value) (size bytes : Nat) (ht : P.underlying t = some (.slice e)) (hi : P.info? e = some i) (hz : i.zero = some z)
    (hsize : i.size = size) (hby : i.bytes = bytes) (hzs : z.cells.size = size) (hsz : 0 < size)
    (v : Value) (n : Nat) (xs : List Value) (hs : a.eval s = v) (hown : w.ownsRow base e size v n xs)
    (ad : Addr) (m c : Nat) (news : List Value) (hx : a.eval x = .slice (some ad) m c) (hl : news.length = m * size) (hnews : ∀ j u, news[j]? = some u → w.cell? (ad.add j) = some u) (h1 : ∀ u ∈ news, u.oneCell' = true)
    (h63 : n + m ≤ maxLen) (hbytes : (n + m) * bytes ≤ 140737488355328) (hbase : base ≤ w.heap.size)
    (h : ∀ ao cap w', w'.ownsRow base e size (.slice ao (n + m) cap) (n + m) (xs ++ news) → w.grownBy w' v.ownBlock → K (a.put o.dst (.slice ao (n + m) cap)) w') :
    if Region.wanted o (yielded ops a.tmps) = true then Oper.wp P o a w K Q else E := by
  have hw : Region.wanted o (yielded ops a.tmps) = true := by simp [Region.wanted, hgd]
  rw [if_pos hw]
  obtain ⟨v', w', hr, h2, h3, _, _⟩ := run_append_own_at (P := P) w base t o.type e i z size bytes ht hi hz hsize hby hzs hsz v n xs hown ad m c news hl hnews h1 h63 hbytes hbase
  obtain ⟨ao, cap, rfl⟩ := own_shape h2
  unfold Oper.wp execOp
  simp only [ho, resolve, invoke, builtin, Sem.run_bind, Sem.run_pure, Result.andThen_ok, List.map_toArray, List.map_cons, List.map_nil, hs, hx, hr]
  exact h ao cap w' h2 h3

/-- The numbering at block Bn: the first k of n hosts are in its map. All its blocks lie below S. -/
structure NumK (w : World) (S Bn n k : Nat) (na : Option Addr) (nc bm : Nat) : Prop where
  blk : w.heap[Bn]? = some (.cells #[.slice na n nc, .map (some bm)] 45 (0, 0))
  names : w.ownsRow 0 9 1 (.slice na n nc) n ((hosts n).map str)
  map : w.ownsMap Ybaf.prog 9 (plainElem Ybaf.prog 3) bm k (numD (hosts k))
  ltn : Bn < S
  ltm : bm < S
  lta : ∀ x, na = some x → x.block < S
def Num (w : World) (S Bn n : Nat) : Prop := ∃ na nc bm, NumK w S Bn n n na nc bm

theorem NumK.below {w w' : World} {S Bn n k : Nat} {na : Option Addr} {nc bm : Nat} (h : NumK w S Bn n k na nc bm) (hb : Below S w w') : NumK w' S Bn n k na nc bm := by
  refine ⟨(hb.block _ h.ltn).trans h.blk, own_block h.names fun g hg => ?_, map_block h.map (hb.block _ h.ltm), h.ltn, h.ltm, h.lta⟩
  cases na with
  | none => simp [Value.ownBlock] at hg
  | some x =>
    have hg : x.block = g := by simpa [Value.ownBlock] using hg
    subst hg
    exact hb.block _ (h.lta x rfl)
theorem Num.below {w w' : World} {S Bn n : Nat} (h : Num w S Bn n) (hb : Below S w w') : Num w' S Bn n := by
  obtain ⟨na, nc, bm, h⟩ := h
  exact ⟨na, nc, bm, h.below hb⟩
theorem Num.mono {w : World} {S S' Bn n : Nat} (h : Num w S Bn n) (hS : S ≤ S') : Num w S' Bn n := by
  obtain ⟨na, nc, bm, h⟩ := h
  exact ⟨na, nc, bm, h.blk, h.names, h.map, Nat.lt_of_lt_of_le h.ltn hS, Nat.lt_of_lt_of_le h.ltm hS, fun x hx => Nat.lt_of_lt_of_le (h.lta x hx) hS⟩

set_option maxRecDepth 100000 in
theorem len21 (w : World) (S Bn n : Nat) (h : Num w S Bn n) : Calls Ybaf.prog 21 #[.pointer (some ⟨Bn, 0, none⟩)] w fun e w' => e = .returned (.int .i64 (n : Int)) ∧ w' = w := by
  obtain ⟨na, nc, bm, h⟩ := h
  have c0 : w.cell? ⟨Bn, 0, none⟩ = some (.slice na n nc) := by simp [World.cell?, h.blk]
  clear h
  go_enter Ybaf.func21, Ybaf.ntmps21
  go_wp2
  go_ret
  exact ⟨rfl, rfl⟩

set_option maxRecDepth 100000 in
theorem name11 (w : World) (S Bn n k : Nat) (h : Num w S Bn n) (hk : k < n) (hn : n ≤ 8) : Calls Ybaf.prog 11 #[.pointer (some ⟨Bn, 0, none⟩), .int .i64 (k : Int)] w fun e w' => e = .returned (.string ⟨(hname k).toArray⟩) ∧ w' = w := by
  obtain ⟨na, nc, bm, h⟩ := h
  obtain ⟨g, cap, e, _, _⟩ := h.names.form (by omega)
  simp only [Value.slice.injEq, true_and] at e
  obtain ⟨rfl, rfl⟩ := e
  have c0 : w.cell? ⟨Bn, 0, none⟩ = some (.slice (some ⟨g, 0, none⟩) n nc) := by simp [World.cell?, h.blk]
  have c1 : w.cell? ⟨g, k, none⟩ = some (.string ⟨(hname k).toArray⟩) := by
    rw [h.names.cellAt k (by omega), List.getElem?_map, hosts_get hk]; rfl
  have hkz : (k : Int) < (n : Int) := by omega
  clear h
  go_enter Ybaf.func11, Ybaf.ntmps11
  go_wp2
  go_ret
  exact ⟨rfl, rfl⟩

theorem look_host {w : World} {S Bn n k : Nat} {na : Option Addr} {nc bm : Nat} (h : NumK w S Bn n k na nc bm) (hk10 : k ≤ 10) (j : Nat) (hj : j < 10) :
    (Instr.lookup 43 (.map (some bm)) (.string ⟨(hname j).toArray⟩) true).run Ybaf.prog w = .ok (.tuple #[.int .i64 (if j < k then (j : Int) else 0), .bool (decide (j < k))]) w := by
  have hlen : (hname j).length ≤ maxLen := by simp [hname, maxLen]
  obtain ⟨v, ps, hlk, hv⟩ := h.map.look_ok (Maps.string_keyed Ybaf.underlying9) Ybaf.underlying43 (zero3 _) (plainElem_int Ybaf.underlying3 (by decide)) (key_str hlen)
  rw [numD_has] at hlk
  rw [hlk]
  by_cases hs : j < k
  · have hm := (hosts_mem (k := j) (n := k) hj hk10).2 hs
    rw [numD_at _ _ hm (hosts_nodup hk10), hosts_idx hs hk10] at hv
    obtain ⟨c, rfl, hc, _⟩ := plainElem_int_inv Ybaf.underlying3 hv
    simp at hc
    simp [hs, hm, hc.1]
  · have hm : hname j ∉ hosts k := fun hm => hs ((hosts_mem hj hk10).1 hm)
    rw [Maps.atKey_of_not_has (by rw [numD_has]; simp [hm])] at hv
    obtain ⟨c, rfl, hc, _⟩ := plainElem_int_inv Ybaf.underlying3 hv
    simp at hc
    simp [hs, hm, hc.1]

set_option maxRecDepth 100000 in
theorem number15 (w : World) (S Bn n j : Nat) (h : Num w S Bn n) (hn : n ≤ 8) (hj : j < 10) : Calls Ybaf.prog 15 #[.pointer (some ⟨Bn, 0, none⟩), .string ⟨(hname j).toArray⟩] w fun e w' => e = .returned (.tuple #[.int .i64 (if j < n then (j : Int) else 0), .bool (decide (j < n))]) ∧ w' = w := by
  obtain ⟨na, nc, bm, h⟩ := h
  have c1 : w.cell? ⟨Bn, 1, none⟩ = some (.map (some bm)) := by simp [World.cell?, h.blk]
  have hlk := look_host h (by omega) j hj
  generalize (if j < n then (j : Int) else 0) = r at hlk ⊢
  generalize decide (j < n) = ok at hlk ⊢
  generalize (hname j).toArray = s at hlk ⊢
  clear h
  go_enter Ybaf.func15, Ybaf.ntmps15
  go_wp2
  go_ret2
  exact ⟨rfl, rfl⟩

/-- The new numbering's memory, its map still empty. -/
theorem numK_start {w w1 w2 : World} {n c : Nat} {ao : Option Addr} {bm : Nat} (h : w1.ownsRow 0 9 1 (.slice ao n c) n ((hosts n).map str)) (hm : w1.ownsMap (H := Unit) Ybaf.prog 9 (plainElem Ybaf.prog 3) bm 0 (.map [])) (hK : Kept w w1 (fun _ => False)) (hw2 : w2 = w1.alloc (.cells #[.slice ao n c, .map (some bm)] 45)) :
    NumK w2 w2.heap.size w1.heap.size n 0 ao c bm ∧ Kept w w2 (fun _ => False) := by
  subst hw2
  refine ⟨⟨heap_alloc_new w1 _, h.alloc _, hm.alloc _, by simp, by have := hm.lt; simp; omega, fun x hx => ?_⟩, hK.trans (Kept.alloc w1 _ (fun _ => False)) (fun _ _ h => h)⟩
  subst hx
  obtain ⟨_, cur, hh⟩ := own_is h (g := x.block) rfl
  have := lt_of_block hh
  simp; omega

theorem NumK.put {w w1 : World} {S Bn n k : Nat} {na : Option Addr} {nc bm : Nat} (h : NumK w S Bn n k na nc bm) (hm : w1.ownsMap Ybaf.prog 9 (plainElem Ybaf.prog 3) bm (k + 1) ((numD (hosts k)).put (.string (hname k)) (.lit (.int .i64 (k : Int))))) (hg : w.grownBy w1 (some bm)) : NumK w1 S Bn n (k + 1) na nc bm := by
  obtain ⟨es, cl, hh⟩ := map_is h.map
  have keep : ∀ b, b < w.heap.size → b ≠ bm → w1.heap[b]? = w.heap[b]? := fun b hb hne => hg.block b hb (fun e => hne (Option.some.inj e))
  refine ⟨(keep Bn (lt_of_block h.blk) (fun e => ?_)).trans h.blk, own_block h.names fun g hg => ?_, ?_, h.ltn, h.ltm, h.lta⟩
  · subst e; have := h.blk; rw [hh] at this; simp at this
  · obtain ⟨_, cur, hc⟩ := own_is h.names hg
    refine keep g (lt_of_block hc) (fun e => ?_)
    subst e; rw [hh] at hc; simp at hc
  · rw [hosts_succ, numD_snoc, hosts_length]; exact hm

set_option maxRecDepth 100000 in
set_option maxHeartbeats 1000000 in
theorem newNumbering (w : World) (Ba c n : Nat) (hn : n ≤ 8) (hcells : ∀ j, j < n → w.cell? ⟨Ba, j, none⟩ = some (.string ⟨(hname j).toArray⟩)) :
    Calls Ybaf.prog 4 #[.slice (some ⟨Ba, 0, none⟩) n c] w fun e w' => ∃ Bn, e = .returned (.tuple #[.pointer (some ⟨Bn, 0, none⟩), .nilIface]) ∧ Num w' w'.heap.size Bn n ∧ Kept w w' (fun _ => False) := by
  have hmm : ∀ (x : World) (k : Int), (Instr.makeMap 43 (some (.int .i64 k))).run Ybaf.prog x = .ok (.map (some x.heap.size)) (x.alloc (.map #[] 0)) := fun x k => by
    simp [Instr.makeMap, run_underlying Ybaf.underlying43, asInt, asIntOf]
  have hN : ∀ x : World, (∀ j, j < n → x.cell? ⟨Ba, j, none⟩ = w.cell? ⟨Ba, j, none⟩) → ∀ j u, ((hosts n).map str)[j]? = some u → x.cell? ((⟨Ba, 0, none⟩ : Addr).add j) = some u := fun x hx j u hu => by
    have hj : j < n := by have := (List.getElem?_eq_some_iff.1 hu).1; simpa [hosts_length] using this
    rw [Addr.add_lit, Nat.zero_add, hx j hj, hcells j hj, ← hu, List.getElem?_map, hosts_get hj]; rfl
  obtain ⟨i0, hi0, hz0, hz1, hz2⟩ := info_parts Ybaf.info9
  go_enter Ybaf.func4, Ybaf.ntmps4
  go_upto_region 1 with fail
  go_cut [4] (fun p wx => ∃ Bn na nc bm, p = .pointer (some ⟨Bn, 0, none⟩) ∧ NumK wx wx.heap.size Bn n 0 na nc bm ∧ Kept w wx (fun _ => False) ∧ w.heap.size ≤ bm)
  case first =>
    go_region_law ((refine step_append_any (by rfl) _ _ _ (by rfl) 0 9 i0 _ 1 16 Ybaf.underlying30 hi0 hz0 hz1 hz2 rfl (by omega) (.slice none 0 0) 0 [] (by rfl) (World.ownsRow_nil _ _ _ _) ⟨Ba, 0, none⟩ n c ((hosts n).map str) (by rfl) (by simp [hosts_length]) (hN _ (fun j hj => by first | rfl | (exact World.cell?_alloc_lt _ _ _ (World.block_lt_of_cell? _ _ (hcells j hj))))) (by simp [str, Value.oneCell']) (by unfold maxLen; omega) (by omega) (Nat.zero_le _) ?_; intro ao cap w1 hown1 hgrow1))
    · go_wp2_with fail
      go_meet
      case rel =>
        go_light
        have hown2 : w1.ownsRow 0 9 1 (.slice ao n cap) n ((hosts n).map str) := by simpa using hown1
        have hK1 : Kept w w1 (fun _ => False) := (Kept.drew w _).trans (Kept.grown hgrow1 (fun _ => False) (fun b hb => by simp [Value.ownBlock] at hb)) (fun _ _ h => h)
        obtain ⟨h1, h2⟩ := numK_start (w2 := (w1.alloc (.map #[] 0)).alloc (.cells #[.slice ao n cap, .map (some w1.heap.size)] 45)) (hown2.alloc _) (World.ownsMap_made w1 _ _ _) (hK1.trans (Kept.alloc w1 _ (fun _ => False)) (fun _ _ h => h)) rfl
        exact ⟨w1.heap.size + 1, ao, cap, w1.heap.size, rfl, by simpa using h1, h2, hK1.size⟩
    · go_wp2_with fail
      go_meet
      case rel =>
        go_light
        have hown2 : w1.ownsRow 0 9 1 (.slice ao n cap) n ((hosts n).map str) := by simpa using hown1
        have hK1 : Kept w w1 (fun _ => False) := ((Kept.alloc w _ _).trans (Kept.drew _ (fun _ => False)) (fun _ _ h => h)).trans (Kept.grown hgrow1 (fun _ => False) (fun b hb => by simp [Value.ownBlock] at hb)) (fun _ _ h => h)
        have hm1 := (World.ownsMap_made (H := Unit) w Ybaf.prog 9 (plainElem Ybaf.prog 3)).drew.kept hgrow1 (by simp [Value.ownBlock])
        obtain ⟨h1, h2⟩ := numK_start (w2 := w1.alloc (.cells #[.slice ao n cap, .map (some w.heap.size)] 45)) hown2 hm1 hK1 rfl
        exact ⟨w1.heap.size, ao, cap, w.heap.size, rfl, h1, h2, Nat.le_refl _⟩
  case rest =>
    obtain ⟨Bn, na, nc, bm, rfl, hN0, hK0, hbm⟩ := hcut
    clear hcells hmm hN hi0 hz0 hz1 hz2
    have c0 : wc.cell? ⟨Bn, 0, none⟩ = some (.slice na n nc) := by simp [World.cell?, hN0.blk]
    go_upto_block 0 with fail
    clear c0
    go_cut [] (fun wx => NumK wx wc.heap.size Bn n n na nc bm ∧ Kept w wx (fun _ => False) ∧ wc.heap.size ≤ wx.heap.size)
    case first =>
      go_wp2_with fail
      go_loopg [21] n (fun g i wr => ∃ k : Nat, k ≤ n ∧ g = n - k ∧ i = .int .i64 k ∧ NumK wr wc.heap.size Bn n k na nc bm ∧ Kept w wr (fun _ => False) ∧ wc.heap.size ≤ wr.heap.size)
      case atStart => exact ⟨0, Nat.zero_le _, rfl, rfl, hN0, hK0, Nat.le_refl _⟩
      case round =>
        obtain ⟨k, hk, rfl, rfl, hN1, hK1, hsz⟩ := hrel
        by_cases hkn : k < n
        · have hkz : (k : Int) < (n : Int) := by omega
          obtain ⟨g, cap, e, _, _⟩ := hN1.names.form (by omega)
          simp only [Value.slice.injEq, true_and] at e
          obtain ⟨rfl, rfl⟩ := e
          have c1 : wr.cell? ⟨g, k, none⟩ = some (.string ⟨(hname k).toArray⟩) := by
            rw [hN1.names.cellAt k (by omega), List.getElem?_map, hosts_get hkn]; rfl
          have cm : wr.cell? ⟨Bn, 1, none⟩ = some (.map (some bm)) := by simp [World.cell?, hN1.blk]
          have hlk := look_host hN1 (by omega) k (by omega)
          simp only [Nat.lt_irrefl, if_false, decide_false] at hlk
          have hlen : (hname k).length ≤ maxLen := by simp [hname, maxLen]
          have hkey := key_str hlen
          have hS : Hid (NumK wr wc.heap.size Bn n k (some ⟨g, 0, none⟩) nc bm) := hN1
          clear hN1 hN0
          generalize hs : (hname k).toArray = s at c1 hlk hkey
          go_wp2_with (at_mapUpdate; refine wpList_mapUpdate_own _ rfl _ _ _ 43 rfl 9 3 (Maps.string_keyed Ybaf.underlying9) Ybaf.underlying43 _ bm k _ rfl hS.out.map (by unfold maxLen; omega) _ _ _ rfl rfl hkey _ [] (plainElem_int Ybaf.underlying3 (WalkArith.wf_i64 (by omega))) ?_; intro w1 hown1 hgrow1)
          go_roundg (n - (k + 1))
          case measure => go_light; omega
          case rel =>
            go_light
            refine ⟨k + 1, by omega, rfl, by go_num, hS.out.put hown1 hgrow1, hK1.trans (Kept.grown hgrow1 (fun b => b = bm) (fun b hb => (Option.some.inj hb).symm)) (fun x hx e => ?_), Nat.le_trans hsz hgrow1.size⟩
            omega
        · have hkz : ¬ ((k : Int) < (n : Int)) := by omega
          obtain rfl : k = n := by omega
          go_wp2
          go_meet
          case rel => go_light; exact ⟨hN1, hK1, hsz⟩
    case rest =>
      obtain ⟨hN1, hK1, hsz⟩ := hcut
      go_wp2
      go_ret2
      exact ⟨Bn, rfl, Num.mono ⟨na, nc, bm, hN1⟩ hsz, hK1⟩

/-- A row of n numbers at block g. -/
def Counts (w : World) (g n : Nat) (f : Nat → Nat) : Prop := ∃ cur, w.heap[g]? = some (.cells cur 31 (0, 0)) ∧ cur.size = n ∧ ∀ i, i < n → cur[i]? = some (.int .u64 (f i : Int))
theorem Counts.cell {w : World} {g n : Nat} {f : Nat → Nat} (h : Counts w g n f) {i : Nat} (hi : i < n) : w.cell? ⟨g, i, none⟩ = some (.int .u64 (f i : Int)) := by
  obtain ⟨cur, hb, _, hc⟩ := h
  simp [World.cell?, hb, hc i hi]
theorem Counts.free {w : World} {g n : Nat} {f : Nat → Nat} (h : Counts w g n f) (i : Nat) : w.frozen? ⟨g, i, none⟩ = false := by
  obtain ⟨cur, hb, _, hc⟩ := h
  simp [World.frozen?, hb]
theorem Counts.lt {w : World} {g n : Nat} {f : Nat → Nat} (h : Counts w g n f) : g < w.heap.size := by
  obtain ⟨cur, hb, _⟩ := h
  exact lt_of_block hb
theorem Counts.of_block {w w' : World} {g n : Nat} {f : Nat → Nat} (h : Counts w g n f) (hb : w'.heap[g]? = w.heap[g]?) : Counts w' g n f := by
  obtain ⟨cur, hh, r⟩ := h
  exact ⟨cur, hb.trans hh, r⟩
theorem Counts.set {w : World} {g n : Nat} {f : Nat → Nat} (h : Counts w g n f) {i : Nat} (hi : i < n) (x : Nat) : Counts (w.setCell ⟨g, i, none⟩ (.int .u64 (x : Int))) g n (fun j => if j = i then x else f j) := by
  obtain ⟨cur, hb, hs, hc⟩ := h
  refine ⟨_, heap_set hb _ _, by simpa using hs, fun j hj => ?_⟩
  by_cases e : j = i
  · subst e
    rw [Array.getElem?_setIfInBounds_self, if_pos (by omega)]; simp
  · rw [Array.getElem?_setIfInBounds_ne (Ne.symm e), hc j hj]; simp [e]
theorem Counts.congr {w : World} {g n : Nat} {f f' : Nat → Nat} (h : Counts w g n f) (he : ∀ i, i < n → f i = f' i) : Counts w g n f' := by
  obtain ⟨cur, hb, hs, hc⟩ := h
  exact ⟨cur, hb, hs, fun i hi => by rw [← he i hi]; exact hc i hi⟩

theorem counts_made (w : World) (n : Nat) : Counts (w.alloc (.cells (madeCells #[.int .u64 0] n) 31)) w.heap.size n (fun _ => 0) :=
  ⟨_, heap_alloc_new w _, by simp [madeCells], fun i hi => by simp [madeCells, hi, Nat.mod_one]⟩

set_option maxRecDepth 100000 in
theorem newDense (w : World) (S Bn n : Nat) (h : Num w S Bn n) (hn : n ≤ 8) (hS : S ≤ w.heap.size) :
    Calls Ybaf.prog 14 #[.pointer (some ⟨Bn, 0, none⟩)] w fun e w' => ∃ g, e = .returned (.agg #[.pointer (some ⟨Bn, 0, none⟩), .slice (some ⟨g, 0, none⟩) n n]) ∧ Counts w' g n (fun _ => 0) ∧ w.heap.size ≤ g ∧ Kept w w' (fun _ => False) := by
  have hmk := run_make_row' (P := Ybaf.prog) 48 31 (.int .u64 0) 8 Ybaf.underlying48 Ybaf.info31 rfl .i64 .i64 n (by omega) (by omega)
  have hL := fun o : Obj => len21 (w.alloc o) S Bn n (h.below ((Below.refl S w).alloc hS o))
  go_enter Ybaf.func14, Ybaf.ntmps14
  go_wp2_with (go_at_call 21; refine (hL _).mono ?_; rintro e w' ⟨rfl, rfl⟩)
  refine bodyPost_ret (v := .agg #[.pointer (some ⟨Bn, 0, none⟩), .slice (some ⟨w.heap.size + 1, 0, none⟩) n n]) (by simp [results, Ybaf.results14, go_sem]) rfl ⟨w.heap.size + 1, rfl, ?_, by omega, ?_⟩
  · simpa using counts_made (w.alloc _) n
  · exact (Kept.alloc w _ _).trans (Kept.alloc _ _ (fun _ => False)) (fun _ _ h => h)

/-- How many of the first k numbers are not 0. -/
def nzc (f : Nat → Nat) : Nat → Nat
  | 0 => 0
  | k + 1 => nzc f k + if f k = 0 then 0 else 1
theorem nzc_le (f : Nat → Nat) (k : Nat) : nzc f k ≤ k := by
  induction k with
  | zero => exact Nat.le_refl _
  | succ k ih => simp only [nzc]; split <;> omega

set_option maxRecDepth 100000 in
theorem entries18 (w : World) (hv : Value) (g n : Nat) (f : Nat → Nat) (h : Counts w g n f) (hn : n ≤ 8) :
    Calls Ybaf.prog 18 #[.agg #[hv, .slice (some ⟨g, 0, none⟩) n n]] w fun e w' => e = .returned (.int .i64 (nzc f n : Int)) ∧ Kept w w' (fun _ => False) := by
  go_enter Ybaf.func18, Ybaf.ntmps18
  go_wp2_with fail
  go_loopg [3, 9] n (fun gg s i wr => w.alloc (.cells #[hv, .slice (some ⟨g, 0, none⟩) n n] 50) = wr ∧ ∃ k : Nat, k ≤ n ∧ gg = n - k ∧ i = .int .i64 k ∧ s = .int .i64 (nzc f k : Int))
  case atStart => exact ⟨rfl, 0, Nat.zero_le _, rfl, rfl, rfl⟩
  case round =>
    obtain ⟨rfl, k, hk, rfl, rfl, rfl⟩ := hrel
    have hnz := nzc_le f k
    by_cases hkn : k < n
    · have hkz : (k : Int) < (n : Int) := by omega
      have hcell : (w.alloc (.cells #[hv, .slice (some ⟨g, 0, none⟩) n n] 50)).cell? ⟨g, k, none⟩ = some (.int .u64 (f k : Int)) := (World.cell?_alloc_lt _ _ _ h.lt).trans (h.cell hkn)
      by_cases h0 : f k = 0
      · have hz : ¬ ((0 : Int) < (f k : Int)) := by omega
        go_wp2
        go_roundg (n - (k + 1))
        case measure => go_light; omega
        case rel => go_light; exact ⟨rfl, k + 1, by omega, rfl, by go_num, by simp [nzc, h0]⟩
      · have hz : ((0 : Int) < (f k : Int)) := by omega
        go_wp2
        go_roundg (n - (k + 1))
        case measure => go_light; omega
        case rel => go_light; exact ⟨rfl, k + 1, by omega, rfl, by go_num, by simp [nzc, h0]⟩
    · have hkz : ¬ ((k : Int) < (n : Int)) := by omega
      obtain rfl : k = n := by omega
      go_wp2
      go_ret
      exact ⟨rfl, Kept.alloc w _ _⟩

end Go.Proofs.YbulkcgomFmt
