import Derived.Test.YbulkcgomFill
import Derived.Deep.OwnRows
import Derived.ProofKit
import Derived.OpenShut
import Derived.ChangeOld
import Derived.WalkLawsBesides
namespace Go.Proofs.Ybulkcgom.lawS4133ARepeats
open Go.ChangeShapes Go.WideShapes Go.ChangeAt Go.RowKit

theorem info24 : (Yba.prog.info? 24).map (fun i => (i.zero, i.size, i.bytes)) = some (some (.slice none 0 0), 1, 24) := by kernel_rfl
theorem info5 : (Yba.prog.info? 5).map (fun i => (i.zero, i.size, i.bytes)) = some (some (.int .u8 0), 1, 1) := by kernel_rfl

theorem Fill.more {w wr : World} {ns : List (List UInt8)} {n k : Nat} {A C : Nat → Nat} (h : Fill w wr ns n k A C) (hk : ns.length = k) (s : List UInt8) : Fill w wr (ns ++ [s]) n k A C := by
  have e : ∀ i, i < k → (ns ++ [s]).getD i [] = ns.getD i [] := fun i hi => by
    simp only [List.getD_eq_getElem?_getD]
    rw [List.getElem?_append_left (by omega)]
  obtain ⟨cur, h1, h2, h3⟩ := h.blk
  exact ⟨h.below, ⟨cur, h1, h2, fun i hi => by rw [e i hi]; exact h3 i hi⟩, fun i hi => by rw [e i hi]; exact h.bytes i hi⟩

/-- The row of bytes that a round lays: its first bytes are bs. -/
structure Row (wr wx : World) (m : Nat) (bs : List UInt8) : Prop where
  kept : Kept wr wx (fun _ => False)
  size : wx.heap.size = wr.heap.size + 1
  blk : ∃ arr, wx.heap[wr.heap.size]? = some (.cells arr 5 (0, 0)) ∧ arr.size = m ∧ ∀ i (hi : i < bs.length), arr[i]? = some (.int .u8 (bs[i].toNat : Int))

theorem row_start (wr : World) (m : Nat) : Row wr (wr.alloc (.cells (madeCells #[.int .u8 0] m) 5)) m [] :=
  ⟨Kept.alloc _ _ _, by simp, ⟨_, heap_alloc_new wr _, by simp [madeCells], fun i hi => absurd hi (Nat.not_lt_zero _)⟩⟩
theorem Row.cell {wr wx : World} {m : Nat} {bs : List UInt8} (h : Row wr wx m bs) {j : Nat} (hj : j < m) : (∃ u, wx.cell? ⟨wr.heap.size, j, none⟩ = some u) ∧ wx.frozen? ⟨wr.heap.size, j, none⟩ = false := by
  obtain ⟨arr, hb, hs, _⟩ := h.blk
  have hlt : j < arr.size := by omega
  exact ⟨⟨arr[j], by simp [World.cell?, hb, hlt]⟩, by simp [World.frozen?, hb]⟩
theorem Row.set {wr wx : World} {m : Nat} {bs : List UInt8} (h : Row wr wx m bs) (hj : bs.length < m) (c : UInt8) : Row wr (wx.setCell ⟨wr.heap.size, bs.length, none⟩ (.int .u8 (c.toNat : Int))) m (bs ++ [c]) := by
  obtain ⟨arr, hb, hs, hc⟩ := h.blk
  refine ⟨h.kept.trans (Kept.setCell wx ⟨wr.heap.size, bs.length, none⟩ _ (fun b => b = wr.heap.size) rfl) (fun x hx e => by omega), by simpa using h.size, ⟨_, heap_set hb _ _, by simpa using hs, fun i hi => ?_⟩⟩
  by_cases e : i = bs.length
  · subst e
    rw [Array.getElem?_setIfInBounds_self, if_pos (by omega)]
    simp
  · have hi' : i < bs.length := by simp at hi; omega
    rw [Array.getElem?_setIfInBounds_ne (Ne.symm e), hc i hi']
    simp [hi']
theorem Row.bytes {wr wx : World} {m : Nat} {bs : List UInt8} (h : Row wr wx m bs) : Bytes wx wr.heap.size bs := by
  obtain ⟨arr, hb, hs, hc⟩ := h.blk
  exact ⟨arr, (0, 0), hb, hc, fun j hj => by simp⟩

/-- 'in[i] = b'. -/
theorem row_done {w wr wx : World} {ns : List (List UInt8)} {n k m : Nat} {A C : Nat → Nat} (h : Fill w wr ns n k A C) (hk : k < n) (hnl : ns.length = k) (hn3 : ∀ s ∈ ns, s.length ≤ 3) {bs : List UInt8} (hm : bs.length = m) (hm3 : m ≤ 3) (hR : Row wr wx m bs) :
    ∃ ns' A' C', ns'.length = k + 1 ∧ (∀ s ∈ ns', s.length ≤ 3) ∧ Fill w (wx.setCell ⟨w.heap.size, k, none⟩ (.slice (some ⟨wr.heap.size, 0, none⟩) m m)) ns' n (k + 1) A' C' := by
  have hlt := (h.cell hk).2.2
  obtain ⟨A', C', hF⟩ := (Fill.more h hnl bs).step (w1 := wx.setCell ⟨w.heap.size, k, none⟩ (.slice (some ⟨wr.heap.size, 0, none⟩) m m)) hk (s := bs) (by simp [hnl.symm]) (a := wr.heap.size) (c := m)
    ((show Kept wr wx (fun b => b = w.heap.size) from ⟨hR.kept.os, hR.kept.tape, hR.kept.output, hR.kept.size, fun b hb _ => hR.kept.block b hb (fun h => h)⟩).trans (Kept.setCell wx ⟨w.heap.size, k, none⟩ _ (fun b => b = w.heap.size) rfl) (fun _ _ h => h))
    (fun cur hcb => by rw [heap_set ((hR.kept.block _ hlt (fun h => h)).trans hcb), hm]) (Nat.le_refl _)
    (hR.bytes.of_block (Below.heap_setCell _ _ _ _ (by show wr.heap.size ≠ w.heap.size; omega)))
  refine ⟨ns ++ [bs], A', C', by simp [hnl], fun s hs => ?_, hF⟩
  rcases List.mem_append.1 hs with hs | hs
  · exact hn3 s hs
  · simp at hs; subst hs; omega

theorem bit01 (z : Int) (h0 : 0 ≤ z) (h1 : z ≤ 255) (n : Nat) : bits BinOp.and IntKind.u8 (z / 2 ^ n) 1 = 0 ∨ bits BinOp.and IntKind.u8 (z / 2 ^ n) 1 = 1 := by
  have a1 : 0 ≤ z / 2 ^ n := Int.ediv_nonneg h0 (Int.le_of_lt (Int.pow_pos (by decide)))
  have a2 : z / 2 ^ n ≤ z := Int.ediv_le_self _ h0
  rw [u8_and _ 1 a1 (by omega) (by decide) (by decide)]
  have := nat_mask1 (z / 2 ^ n).toNat
  rw [show (1 : Int).toNat = 1 from rfl, this]
  omega

set_option maxRecDepth 1000000 in
set_option maxHeartbeats 1000000 in
theorem walk (w : World) (a0 : Option Addr) (len cap : Nat) (zs : List Int) (hm : len ≤ maxLen)
    (hs : ∀ i, i < len → ∃ b off, a0 = some ⟨b, off, none⟩ ∧ w.cell? ⟨b, off + i, none⟩ = some (.int .u8 (zs.getD i 0))) (hz : ∀ i, i < len → 0 ≤ zs.getD i 0 ∧ zs.getD i 0 ≤ 255) :
    Calls Yba.prog 4 #[.slice a0 len cap] w fun e w' => e = .returned (.bool true) ∧ Below w.heap.size w w' := by
  unfold maxLen at hm
  by_cases h1024 : 1024 < len
  · have hgt : (1024 : Int) < (len : Int) := by omega
    go_enter Yba.func4, Yba.ntmps4
    go_wp2
    go_ret
    exact ⟨rfl, Below.refl _ _⟩
  · have hgt : ¬ (1024 : Int) < (len : Int) := by omega
    have hmk := run_make_row' (P := Yba.prog) 23 24 (.slice none 0 0) 24 Yba.underlying23 info24 rfl .i64 .i64 len (by omega) (by omega)
    go_enter Yba.func4, Yba.ntmps4
    go_upto_block 0 with fail
    clear hmk
    have hS0 := fill_start w [] len
    go_cut [] (fun wx => ∃ ns A C, ns.length = len ∧ (∀ s ∈ ns, s.length ≤ 3) ∧ Fill w wx ns len len A C)
    case first =>
      go_wp2_with fail
      go_loopg [18] len (fun g i wr => ∃ k : Nat, k ≤ len ∧ g = len - k ∧ i = .int .i64 k ∧ ∃ ns A C, ns.length = k ∧ (∀ s ∈ ns, s.length ≤ 3) ∧ Fill w wr ns len k A C)
      case atStart => exact ⟨0, Nat.zero_le _, rfl, rfl, [], _, _, rfl, by simp, hS0⟩
      case round =>
        obtain ⟨k, hk, rfl, rfl, ns, A, C, hnl, hn3, hF⟩ := hrel
        clear hS0
        by_cases hkn : k < len
        · have hz1 : (k : Int) < (len : Int) := by omega
          obtain ⟨b, off, rfl, hcell⟩ := hs k hkn
          have hbw : b < w.heap.size := World.block_lt_of_cell? _ _ hcell
          have hcr : wr.cell? ⟨b, off + k, none⟩ = some (.int .u8 (zs.getD k 0)) := (hF.below.cell (p := ⟨b, off + k, none⟩) hbw).trans hcell
          have hzk := hz k hkn
          obtain ⟨⟨u, hcu⟩, hfu, hlt⟩ := hF.cell hkn
          generalize zs.getD k 0 = z at hcr hzk
          obtain ⟨m, hm4, hm3⟩ : ∃ m : Nat, z % 4 = (m : Int) ∧ m ≤ 3 := ⟨(z % 4).toNat, by omega, by omega⟩
          clear hcell hs
          obtain ⟨hz0, hz255⟩ := hzk
          have hmk := run_make_row' (P := Yba.prog) 24 5 (.int .u8 0) 1 Yba.underlying24 info5 rfl .i64 .i64 m (by omega) (by omega)
          go_upto_block 2 with fail
          clear hmk hcr hm4
          have hR0 := row_start wr m
          go_cut [] (fun wx => ∃ bs : List UInt8, bs.length = m ∧ Row wr wx m bs)
          case first =>
            clear hF hcu hfu
            go_wp2_with fail
            go_loopg [8] m (fun g i wx => ∃ bs : List UInt8, bs.length ≤ m ∧ g = m - bs.length ∧ i = .int .i64 (bs.length : Int) ∧ Row wr wx m bs)
            case atStart => exact ⟨[], Nat.zero_le _, rfl, rfl, hR0⟩
            case round =>
              obtain ⟨bs, hbs, rfl, rfl, hR⟩ := hrel
              by_cases hjm : bs.length < m
              · have hjz : (bs.length : Int) < (m : Int) := by omega
                obtain ⟨⟨u1, hcu1⟩, hfu1⟩ := hR.cell hjm
                rcases bit01 z hz0 hz255 (2 + bs.length) with hbit | hbit
                · go_wp2
                  go_roundg (m - (bs.length + 1))
                  case measure => go_light; omega
                  case rel => go_light; exact ⟨bs ++ [97], by simp; omega, by simp, by simp, hR.set hjm 97⟩
                · go_wp2
                  go_roundg (m - (bs.length + 1))
                  case measure => go_light; omega
                  case rel => go_light; exact ⟨bs ++ [98], by simp; omega, by simp, by simp, hR.set hjm 98⟩
              · have hjz : ¬ ((bs.length : Int) < (m : Int)) := by omega
                go_wp2
                go_meet
                case rel => go_light; exact ⟨bs, by omega, hR⟩
          case rest =>
            obtain ⟨bs, hbm, hR⟩ := hcut
            have hcu2 : wc.cell? ⟨w.heap.size, k, none⟩ = some u := (World.cell?_of_block (a := ⟨w.heap.size, k, none⟩) (hR.kept.block _ hlt (fun h => h))).trans hcu
            have hfu2 : wc.frozen? ⟨w.heap.size, k, none⟩ = false := (World.frozen?_of_block (a := ⟨w.heap.size, k, none⟩) (hR.kept.block _ hlt (fun h => h))).trans hfu
            clear hcu hfu hR0
            go_wp2
            go_roundg (len - (k + 1))
            case measure => go_light; omega
            case rel => go_light; exact ⟨k + 1, by omega, rfl, by go_num, row_done hF hkn hnl hn3 hbm hm3 hR⟩
        · have hz : ¬ ((k : Int) < (len : Int)) := by omega
          go_wp2
          go_meet
          case rel => obtain rfl : k = len := by omega
                      exact ⟨ns, A, C, hnl, hn3, hF⟩
    case rest =>
      obtain ⟨ns, A, C, hnl, hn3, hF⟩ := hcut
      clear hS0
      subst hnl
      have hC := hF.done
      clear hs
      go_wp2_with (go_at_call 5; refine (check _ _ _ _ _ ns A C (by omega) (fun s hs => by have := hn3 s hs; omega) hC).mono ?_; rintro e w2 ⟨rfl, hb2⟩)
      go_ret
      exact ⟨rfl, (hF.below.alloc (by have := hF.below.size; omega) _).trans hb2⟩

theorem own : ownKnob Yba.prog.godebug = none := by kernel_rfl
theorem laidOut : laidOutB Yba.prog = true := by kernel_rfl

set_option maxRecDepth 100000 in
theorem lifted (os : Os) (started : os.Started) (H : Type) (enc : TypeId × Value → H) :
    ReturnsInHanded {} Yba.checked os 4 .any (Rows.lawS4133ARepeatsSpec.pre6 enc Yba.prog Yba.f4 Rows.lawS4133ARepeatsRow.domain false) (Rows.lawS4133ARepeatsSpec.post enc Yba.prog Yba.f4 false true false false) := by
  refine returnsInHanded_of_change (C := Yba.checked) own started (by kernel_rfl) Yba.func4
    (ChangeSpec.witness6 (enc := enc) (C := Yba.checked) false ⟨#[], #[.slice none 0 0], []⟩ 8 (by kernel_rfl) (by kernel_rfl) (by kernel_rfl) (by kernel_rfl)) ?_
  intro W base args ds gs before hval0 hW _ _
  have hval : ∀ (j : Nat) t v, Yba.f4.params[j]? = some t → args[j]? = some v → Value.okWide Yba.prog W .any base t v := hval0
  have hW' := hW
  obtain ⟨p, q, hA0, hV, rfl, _, _⟩ := hW
  have hA : DataW.TrodAll enc Yba.prog W 0 (fun _ => true) true Yba.f4.params.toList args.toList ds p := hA0
  rw [Yba.params4] at hA hval
  obtain ⟨v0, d0, rfl, rfl, h0⟩ := trodAll_one hA
  obtain ⟨rfl, rfl⟩ := trodVars_none hV
  obtain ⟨a0, len, cap, rfl⟩ := okWide_slice Yba.underlying24 (hval 0 24 v0 rfl rfl)
  have k0 := h0
  have lt0 : ∀ x ∈ p, x.block < W.heap.size := by obtain ⟨m, hm⟩ := k0; exact DataW.trod_lt m _ _ _ hm
  clear hA0 hval0
  simp only [List.append_nil] at hW'
  have hw : Calls Yba.prog 4 #[.slice a0 len cap] W fun e w' => e = .returned (.bool true) ∧ Below W.heap.size W w' := by
    obtain ⟨fuel, hf⟩ := h0
    rcases open_ints Yba.underlying24 Yba.underlying5 (by kernel_rfl) hf with ⟨hcs, _⟩ | ⟨x, l, c, zs, hcs, _, hl, hm, hz, _, hcell, hwz⟩
    · simp [Value.cells] at hcs
      obtain ⟨rfl, rfl, rfl⟩ := hcs
      exact walk W none 0 0 [] (by unfold maxLen; omega) (fun i hi => absurd hi (Nat.not_lt_zero _)) (fun i hi => absurd hi (Nat.not_lt_zero _))
    · simp [Value.cells] at hcs
      obtain ⟨rfl, rfl, rfl⟩ := hcs
      simp only [if_true] at hz
      refine walk W _ len cap zs (by omega) (fun i hi => ?_) (fun i hi => ?_)
      · obtain ⟨b, off, spot⟩ := x
        have hspot : spot = none := by simpa [Addr.add] using World.cell?_spot (hcell 0 (by omega))
        subst hspot
        exact ⟨b, off, rfl, by have := hcell i (by omega); rwa [add_plain] at this⟩
      · have hi' : i < zs.length := by omega
        have hm' : zs.getD i 0 ∈ zs := by simp [hi']
        have := hwz _ hm'
        have h1 : IntKind.u8.min = 0 := rfl
        have h2 : IntKind.u8.max = 255 := rfl
        simp only [Lit.wf, Bool.and_eq_true, decide_eq_true_eq, h1, h2] at this
        exact this
  refine hw.mono fun e W' ⟨he, bel⟩ => ?_
  subst he
  exact ⟨_, rfl, _, _, _, [], _, [], hW', trodAll_mk1 (shut_bool Yba.underlying4 _), (trodAll_mk1 (Below.trod laidOut (by kernel_rfl) (of_decide_eq_true (by kernel_rfl)) k0 bel lt0)), rfl, bel.frame _, fun h => by cases h⟩

theorem proved : Rows.LawS4133ARepeatsSaid :=
  OpenClaim.holds_of_wide 4 Yba.f4 rfl rfl rfl rfl rfl rfl rfl ⟨rfl, rfl, rfl, rfl, rfl⟩ rfl rfl rfl rfl rfl (by kernel_rfl) Yba.func4 (by kernel_rfl)
    (of_decide_eq_true (by kernel_rfl)) (by unfold Func.isWrapper; first | (rw [if_pos (by decide +kernel)]; kernel_rfl) | (rw [if_neg (by decide +kernel)]; exact ⟨rfl, rfl⟩))
    (fun os started H enc _ => lifted os started H enc)

#print axioms proved
end Go.Proofs.Ybulkcgom.lawS4133ARepeats
