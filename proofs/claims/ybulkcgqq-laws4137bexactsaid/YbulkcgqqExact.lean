/-
  LawS4137BExact: project zeroes exactly the entries whose bit is clear.
-/
import Derived.Test.YbulkcgqqBase
namespace Go.Proofs.Ybulkcgqq
open Go.RowKit

/-- Sixteen numbers. -/
def Row16 (w : World) (g : Nat) (e : TypeId) (f : Nat → Int) : Prop := ∃ cur, w.heap[g]? = some (.cells cur e (0, 0)) ∧ cur.size = 16 ∧ ∀ i, i < 16 → cur[i]? = some (.int .u64 (f i))
theorem Row16.cell {w : World} {g : Nat} {e : TypeId} {f : Nat → Int} (h : Row16 w g e f) {i : Nat} (hi : i < 16) : w.cell? ⟨g, i, none⟩ = some (.int .u64 (f i)) := by
  obtain ⟨cur, hb, _, hc⟩ := h
  simp [World.cell?, hb, hc i hi]
theorem Row16.free {w : World} {g : Nat} {e : TypeId} {f : Nat → Int} (h : Row16 w g e f) (i : Nat) : w.frozen? ⟨g, i, none⟩ = false := by
  obtain ⟨cur, hb, _, hc⟩ := h
  simp [World.frozen?, hb]
theorem Row16.lt {w : World} {g : Nat} {e : TypeId} {f : Nat → Int} (h : Row16 w g e f) : g < w.heap.size := by
  obtain ⟨cur, hb, _⟩ := h
  exact lt_of_block hb
theorem Row16.of_block {w w' : World} {g : Nat} {e : TypeId} {f : Nat → Int} (h : Row16 w g e f) (hb : w'.heap[g]? = w.heap[g]?) : Row16 w' g e f := by
  obtain ⟨cur, hh, r⟩ := h
  exact ⟨cur, hb.trans hh, r⟩
def upd (f : Nat → Int) (i : Nat) (x : Int) : Nat → Int := fun j => if j = i then x else f j
theorem Row16.set {w : World} {g : Nat} {e : TypeId} {f : Nat → Int} (h : Row16 w g e f) {i : Nat} (hi : i < 16) (x : Int) : Row16 (w.setCell ⟨g, i, none⟩ (.int .u64 x)) g e (upd f i x) := by
  obtain ⟨cur, hb, hs, hc⟩ := h
  refine ⟨_, heap_set hb _ _, by simpa using hs, fun j hj => ?_⟩
  unfold upd
  by_cases e : j = i
  · subst e
    rw [Array.getElem?_setIfInBounds_self, if_pos (by omega)]; simp
  · rw [Array.getElem?_setIfInBounds_ne (Ne.symm e), hc j hj]; simp [e]
theorem Row16.congr {w : World} {g : Nat} {e : TypeId} {f f' : Nat → Int} (h : Row16 w g e f) (he : ∀ i, i < 16 → f i = f' i) : Row16 w g e f' := by
  obtain ⟨cur, hb, hs, hc⟩ := h
  exact ⟨cur, hb, hs, fun i hi => by rw [← he i hi]; exact hc i hi⟩

/-- The bit number k of j is clear. -/
def clr (j : Int) (k : Nat) : Bool := bits BinOp.and IntKind.u32 j (2 ^ k % 4294967296) == 0
/-- What project leaves, k of the entries done. -/
def left (f : Nat → Int) (j : Int) (k : Nat) : Nat → Int := fun i => if i < k ∧ clr j i = true then 0 else f i
theorem left_zero (f : Nat → Int) (j : Int) : left f j 0 = f := by funext i; simp [left]
theorem left_clr (f : Nat → Int) (j : Int) (k : Nat) (h : clr j k = true) : left f j (k + 1) = upd (left f j k) k 0 := by
  funext i
  unfold left upd
  by_cases e : i = k
  · subst e; simp [h]
  · have : (i < k + 1) = (i < k) := by simp; omega
    simp [e, this]
theorem left_set (f : Nat → Int) (j : Int) (k : Nat) (h : clr j k = false) : left f j (k + 1) = left f j k := by
  funext i
  unfold left
  by_cases e : i = k
  · subst e; simp [h]
  · have : (i < k + 1) = (i < k) := by simp; omega
    simp [this]

set_option maxRecDepth 100000 in
theorem project8 (w : World) (Bw Bk Bg : Nat) (procs : Nat) (hp : procs ≤ 16) (judged : Int) (f : Nat → Int)
    (c1 : w.cell? ⟨Bw, 1, none⟩ = some (.pointer (some ⟨Bk, 0, none⟩))) (c2 : w.cell? ⟨Bk, 1, none⟩ = some (.int .i64 (procs : Int))) (c3 : w.cell? ⟨Bw, 3, none⟩ = some (.int .u32 judged)) (hg : Row16 w Bg 100 f) (n1 : Bw ≠ Bg) :
    Calls Yba.prog 8 #[.pointer (some ⟨Bw, 0, none⟩), .pointer (some ⟨Bg, 0, none⟩)] w fun e w' => (∃ v, e = .returned v) ∧ Kept w w' (fun b => b = Bg) ∧ Row16 w' Bg 100 (left f judged procs) := by
  go_enter Yba.func8, Yba.ntmps8
  go_upto_block 0 with fail
  go_wp2_with fail
  go_loopg [13] procs (fun gg i wr => ∃ k : Nat, k ≤ procs ∧ gg = procs - k ∧ i = .int .i64 (k : Int) ∧ Kept w wr (fun b => b = Bg) ∧ Row16 wr Bg 100 (left f judged k))
  case atStart => exact ⟨0, Nat.zero_le _, rfl, rfl, Kept.refl _ _, by rw [left_zero]; exact hg⟩
  case round =>
    obtain ⟨k, hk, rfl, rfl, hK, hR⟩ := hrel
    have d3 : wr.cell? ⟨Bw, 3, none⟩ = some (.int .u32 judged) := (hK.cell ⟨Bw, 3, none⟩ (World.block_lt_of_cell? _ _ c3) n1).trans c3
    by_cases hkn : k < procs
    · have hkz : (k : Int) < (procs : Int) := by omega
      have hk16 : (k : Int) < 16 := by omega
      have hcell := hR.cell (show k < 16 by omega)
      have hfree := hR.free k
      cases hb : clr judged k with
      | true =>
        have hbit : (bits BinOp.and IntKind.u32 judged (2 ^ k % 4294967296) == 0) = true := hb
        have hf : Hid (Row16 (wr.drew.setCell ⟨Bg, k, none⟩ (.int .u64 0)) Bg 100 (left f judged (k + 1))) := by
          have h4 : Row16 wr.drew Bg 100 (left f judged k) := hR
          have := h4.set (show k < 16 by omega) 0
          rw [← left_clr f judged k hb] at this
          exact this
        clear hb
        go_upto_region 3 with fail
        go_region
        all_goals
          go_wp2_with fail
          go_roundg (procs - (k + 1))
          case measure => go_light; omega
          case rel => go_light; exact ⟨k + 1, by omega, rfl, by go_num, (hK.trans (Kept.drew _ (fun _ => False)) (fun _ _ h => h.elim)).trans (Kept.setCell _ ⟨Bg, k, none⟩ _ (fun b => b = Bg) rfl) (fun _ _ h => h), hf.out⟩
      | false =>
        have hbit : (bits BinOp.and IntKind.u32 judged (2 ^ k % 4294967296) == 0) = false := hb
        have hf : Hid (Row16 wr Bg 100 (left f judged (k + 1))) := by rw [left_set f judged k hb]; exact hR
        clear hb
        go_upto_region 3 with fail
        go_region
        all_goals
          go_wp2_with fail
          go_roundg (procs - (k + 1))
          case measure => go_light; omega
          case rel => go_light; exact ⟨k + 1, by omega, rfl, by go_num, hK.trans (Kept.drew _ (fun _ => False)) (fun _ _ h => h.elim), hf.out⟩
    · have hkz : ¬ ((k : Int) < (procs : Int)) := by omega
      obtain rfl : k = procs := by omega
      go_wp2
      exact bodyPost_end (v := .tuple #[]) (by simp [results, Yba.results8]) rfl ⟨⟨_, rfl⟩, hK, hR⟩

/-- The array's cells. -/
def cells16 (h : Nat → Int) : Array Value := #[.int .u64 (h 0), .int .u64 (h 1), .int .u64 (h 2), .int .u64 (h 3), .int .u64 (h 4), .int .u64 (h 5), .int .u64 (h 6), .int .u64 (h 7), .int .u64 (h 8), .int .u64 (h 9), .int .u64 (h 10), .int .u64 (h 11), .int .u64 (h 12), .int .u64 (h 13), .int .u64 (h 14), .int .u64 (h 15)]
theorem cells16_get (h : Nat → Int) : ∀ i, i < 16 → (cells16 h)[i]? = some (.int .u64 (h i))
  | 0, _ => rfl
  | 1, _ => rfl
  | 2, _ => rfl
  | 3, _ => rfl
  | 4, _ => rfl
  | 5, _ => rfl
  | 6, _ => rfl
  | 7, _ => rfl
  | 8, _ => rfl
  | 9, _ => rfl
  | 10, _ => rfl
  | 11, _ => rfl
  | 12, _ => rfl
  | 13, _ => rfl
  | 14, _ => rfl
  | 15, _ => rfl
  | _ + 16, hi => absurd hi (by omega)

/-- The world behind the law's set-up. -/
structure XI (W wr : World) (procs : Nat) (judged : Int) (h g : Nat → Int) : Prop where
  own : Row16 wr W.heap.size 63 h
  got : Row16 wr (W.heap.size + 3) 100 g
  c1 : wr.cell? ⟨W.heap.size + 2, 1, none⟩ = some (.pointer (some ⟨W.heap.size + 1, 0, none⟩))
  c2 : wr.cell? ⟨W.heap.size + 1, 1, none⟩ = some (.int .i64 (procs : Int))
  c3 : wr.cell? ⟨W.heap.size + 2, 3, none⟩ = some (.int .u32 judged)
  kept : Kept W wr (fun _ => False)

theorem XI.next {W wr w1 : World} {procs : Nat} {judged : Int} {h g g1 : Nat → Int} (x : XI W wr procs judged h g) (hK : Kept wr w1 (fun b => b = W.heap.size + 3)) (hR : Row16 w1 (W.heap.size + 3) 100 g1) : XI W w1 procs judged h g1 := by
  have hl := x.got.lt
  refine ⟨x.own.of_block (hK.block _ x.own.lt (by omega)), hR, ?_, ?_, ?_, x.kept.trans hK (fun y hy e => by omega)⟩
  · exact (hK.cell ⟨W.heap.size + 2, 1, none⟩ (show W.heap.size + 2 < _ by omega) (show ¬ W.heap.size + 2 = _ by omega)).trans x.c1
  · exact (hK.cell ⟨W.heap.size + 1, 1, none⟩ (show W.heap.size + 1 < _ by omega) (show ¬ W.heap.size + 1 = _ by omega)).trans x.c2
  · exact (hK.cell ⟨W.heap.size + 2, 3, none⟩ (show W.heap.size + 2 < _ by omega) (show ¬ W.heap.size + 2 = _ by omega)).trans x.c3

theorem start {W : World} {procs : Nat} {judged : Int} {h : Nat → Int} {ck cw : Array Value} (hk : ck[1]? = some (.int .i64 (procs : Int))) (hw1 : cw[1]? = some (.pointer (some ⟨W.heap.size + 1, 0, none⟩))) (hw3 : cw[3]? = some (.int .u32 judged)) :
    XI W ((((W.alloc (.cells (cells16 h) 63)).alloc (.cells ck 85)).alloc (.cells cw 99)).alloc (.cells (cells16 h) 100)) procs judged h h := by
  have e1 : (W.alloc (.cells (cells16 h) 63)).heap.size = W.heap.size + 1 := by simp
  have e2 : ((W.alloc (.cells (cells16 h) 63)).alloc (.cells ck 85)).heap.size = W.heap.size + 2 := by simp
  have e3 : (((W.alloc (.cells (cells16 h) 63)).alloc (.cells ck 85)).alloc (.cells cw 99)).heap.size = W.heap.size + 3 := by simp
  have b0 := heap_alloc_new W (.cells (cells16 h) 63)
  have b1 := heap_alloc_new (W.alloc (.cells (cells16 h) 63)) (.cells ck 85)
  have b2 := heap_alloc_new ((W.alloc (.cells (cells16 h) 63)).alloc (.cells ck 85)) (.cells cw 99)
  have b3 := heap_alloc_new (((W.alloc (.cells (cells16 h) 63)).alloc (.cells ck 85)).alloc (.cells cw 99)) (.cells (cells16 h) 100)
  rw [e1] at b1
  rw [e2] at b2
  rw [e3] at b3
  have f0 := (Below.heap_alloc _ (.cells (cells16 h) 100) W.heap.size (by rw [e3]; omega)).trans ((Below.heap_alloc _ (.cells cw 99) W.heap.size (by rw [e2]; omega)).trans ((Below.heap_alloc _ (.cells ck 85) W.heap.size (by rw [e1]; omega)).trans b0))
  have f1 := (Below.heap_alloc _ (.cells (cells16 h) 100) (W.heap.size + 1) (by rw [e3]; omega)).trans ((Below.heap_alloc _ (.cells cw 99) (W.heap.size + 1) (by rw [e2]; omega)).trans b1)
  have f2 := (Below.heap_alloc _ (.cells (cells16 h) 100) (W.heap.size + 2) (by rw [e3]; omega)).trans b2
  refine ⟨⟨_, f0, rfl, cells16_get h⟩, ⟨_, b3, rfl, cells16_get h⟩, ?_, ?_, ?_, ?_⟩
  · simp only [World.cell?, f2]; exact hw1
  · simp only [World.cell?, f1]; exact hk
  · simp only [World.cell?, f2]; exact hw3
  · exact (((Kept.alloc W _ _).trans (Kept.alloc _ _ (fun _ => False)) (fun _ _ h => h)).trans (Kept.alloc _ _ (fun _ => False)) (fun _ _ h => h)).trans (Kept.alloc _ _ (fun _ => False)) (fun _ _ h => h)

set_option maxRecDepth 100000 in
set_option maxHeartbeats 1000000 in
theorem walk (W : World) (h : Nat → Int) (judged : Int) (z : Nat) (hz : z ≤ 255) :
    Calls Yba.prog 5 #[.agg #[.int .u64 (h 0), .int .u64 (h 1), .int .u64 (h 2), .int .u64 (h 3), .int .u64 (h 4), .int .u64 (h 5), .int .u64 (h 6), .int .u64 (h 7), .int .u64 (h 8), .int .u64 (h 9), .int .u64 (h 10), .int .u64 (h 11), .int .u64 (h 12), .int .u64 (h 13), .int .u64 (h 14), .int .u64 (h 15)], .int .u32 judged, .int .u8 (z : Int)] W fun e w' => e = .returned (.bool true) ∧ Below W.heap.size W w' := by
  obtain ⟨procs, hp17, hp⟩ : ∃ procs : Nat, (z : Int) % 17 = (procs : Int) ∧ procs ≤ 16 := ⟨z % 17, by omega, by omega⟩
  go_enter Yba.func5, Yba.ntmps5
  go_upto_region 3 with fail
  go_cut [9] (fun p wx => p = .pointer (some ⟨W.heap.size + 3, 0, none⟩) ∧ XI W wx procs judged h h)
  case first =>
    go_wp2_with fail
    go_meet
    case rel => go_light; exact ⟨rfl, start rfl rfl rfl⟩
  case rest =>
    obtain ⟨rfl, hX⟩ := hcut
    go_upto_region 5 with (go_at_call 8; refine (project8 _ (W.heap.size + 2) (W.heap.size + 1) (W.heap.size + 3) procs hp judged h hX.c1 hX.c2 hX.c3 hX.got (by omega)).mono ?_; rintro e w1 ⟨⟨v, rfl⟩, hK1, hR1⟩)
    have hX1 := hX.next hK1 hR1
    clear hX hK1 hR1
    go_upto_block 0 with fail
    go_cut [] (fun wx => w1 = wx)
    case first =>
      go_wp2_with fail
      go_loopg [10] 16 (fun gg i wr => w1 = wr ∧ ∃ k : Nat, k ≤ 16 ∧ gg = 16 - k ∧ i = .int .i64 (k : Int))
      case atStart => exact ⟨rfl, 0, Nat.zero_le _, rfl, rfl⟩
      case round =>
        obtain ⟨rfl, k, hk, rfl, rfl⟩ := hrel
        by_cases hkn : k < 16
        · have hkz : (k : Int) < 16 := by omega
          have ch := hX1.own.cell hkn
          have cg := hX1.got.cell hkn
          generalize hhk : h k = hv at ch
          by_cases hkp : k < procs
          · have hkpz : (k : Int) < (procs : Int) := by omega
            cases hb : clr judged k with
            | true =>
              have hbit : (bits BinOp.and IntKind.u32 judged (2 ^ k % 4294967296) == 0) = true := hb
              have e0 : left h judged procs k = 0 := by simp [left, hkp, hb]
              rw [e0] at cg
              clear hb e0 hhk
              go_wp2
              go_roundg (16 - (k + 1))
              case measure => go_light; omega
              case rel => go_light; exact ⟨rfl, k + 1, by omega, rfl, by go_num⟩
            | false =>
              have hbit : (bits BinOp.and IntKind.u32 judged (2 ^ k % 4294967296) == 0) = false := hb
              have e0 : left h judged procs k = hv := by simp [left, hb, hhk]
              rw [e0] at cg
              clear hb e0 hhk
              go_wp2
              go_roundg (16 - (k + 1))
              case measure => go_light; omega
              case rel => go_light; exact ⟨rfl, k + 1, by omega, rfl, by go_num⟩
          · have hkpz : ¬ ((k : Int) < (procs : Int)) := by omega
            have e0 : left h judged procs k = hv := by simp [left, hkp, hhk]
            rw [e0] at cg
            clear e0 hhk
            go_wp2
            go_roundg (16 - (k + 1))
            case measure => go_light; omega
            case rel => go_light; exact ⟨rfl, k + 1, by omega, rfl, by go_num⟩
        · have hkz : ¬ ((k : Int) < 16) := by omega
          go_wp2
          go_meet
          case rel => go_light; rfl
    case rest =>
      subst hcut
      have d1 : w1.cell? ⟨W.heap.size + 1 + 1, 1, none⟩ = some (.pointer (some ⟨W.heap.size + 1, 0, none⟩)) := hX1.c1
      have d2 := hX1.c2
      have d3 : w1.cell? ⟨W.heap.size + 1 + 1, 3, none⟩ = some (.int .u32 judged) := hX1.c3
      go_wp2
      go_ret
      exact ⟨rfl, hX1.kept.below (Nat.le_refl _) (fun _ h => h.elim)⟩

end Go.Proofs.Ybulkcgqq
