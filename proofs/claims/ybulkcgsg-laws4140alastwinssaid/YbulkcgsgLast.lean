/-
  LawS4140ALastWins: the walk.
-/
import Derived.Test.YbulkcgsgLast0
namespace Go.Proofs.Ybulkcgsg
open Go.RowKit

/-- The last index as the law counts it. -/
def idx : Option Nat → Int
  | none => -1
  | some t => (t : Int)

theorem WL.start (W : World) : WL W (W.alloc (.cells #[.map none, .slice none 0 0, .map none, .pointer none] 28)) none 0 (.map []) :=
  ⟨heap_alloc_new W _, ⟨rfl, rfl⟩, Kept.alloc W _ _, fun _ h => by cases h⟩
theorem last_lt (c : Nat → Nat) (n k t : Nat) (h : last c n k = some t) : t < n := by
  induction n with
  | zero => cases h
  | succ n ih =>
    simp only [last] at h
    split at h
    · cases h; omega
    · have := ih h; omega

theorem dn_le (L : Nat → Option Nat) (k : Nat) (hk : k ≤ 10) : dn L k ≤ 10 := by
  have : ∀ k, dn L k ≤ k := fun k => by
    induction k with
    | zero => exact Nat.le_refl _
    | succ k ih => simp only [dn]; split <;> omega
  have := this k
  omega
theorem nil25 (x : World) : (binOp .eql 25 (.slice none 0 0) (.slice none 0 0)).run Yba.prog x = .ok (.bool true) x := by kernel_rfl

set_option maxRecDepth 100000 in
set_option maxHeartbeats 1000000 in
theorem last_walk (W : World) (a : Option Addr) (len cap : Nat) (y : Nat → Nat) (x : Nat → ByteArray) (hle : len ≤ maxLen)
    (he : ∀ i, i < len → ∃ b off, a = some ⟨b, off, none⟩ ∧ W.cell? ⟨b, off + i * 2, none⟩ = some (.int .u8 (y i : Int)) ∧ W.cell? ⟨b, off + i * 2 + 1, none⟩ = some (.string (x i))) (hy : ∀ i, i < len → y i ≤ 255) :
    Calls Yba.prog 3 #[.slice a len cap] W fun e w' => e = .returned (.bool true) ∧ Below W.heap.size W w' := by
  have hmax : maxLen = 9223372036854775807 := rfl
  rw [hmax] at hle
  by_cases hl1 : 1024 < len
  · have hz1 : (1024 : Int) < (len : Int) := by omega
    clear he hy
    go_enter Yba.func3, Yba.ntmps3
    go_wp2
    go_ret
    exact ⟨rfl, Below.refl _ _⟩
  have hz1 : ¬ ((1024 : Int) < (len : Int)) := by omega
  have hI0 := WL.start W
  go_enter Yba.func3, Yba.ntmps3
  go_upto_region 4 with fail
  generalize W.alloc (.cells #[.map none, .slice none 0 0, .map none, .pointer none] 28) = w0 at hI0 ⊢
  go_upto_block 0 with fail
  go_cut [] (fun wx => ∃ m cnt D, WL W wx m cnt D ∧ LD D (last (fun i => y i % 4) len) x)
  case first =>
    go_wp2_with fail
    go_loopg [4] len (fun gg i wr => ∃ k : Nat, k ≤ len ∧ gg = len - k ∧ i = .int .i64 (k : Int) ∧ ∃ m cnt D, cnt ≤ k ∧ WL W wr m cnt D ∧ LD D (last (fun i => y i % 4) k) x)
    case atStart => exact ⟨0, Nat.zero_le _, rfl, rfl, none, 0, _, Nat.le_refl _, hI0, LD.start x⟩
    case round =>
      obtain ⟨k, hk, rfl, rfl, m, cnt, D, hck, hI, hD⟩ := hrel
      clear hI0
      by_cases hkn : k < len
      · have hkz : (k : Int) < (len : Int) := by omega
        obtain ⟨be, oe, rfl, hc0, hc1⟩ := he k hkn
        have hyk := hy k hkn
        have hlt0 : be < W.heap.size := World.block_lt_of_cell? _ _ hc0
        have hd0 : wr.cell? ⟨be, oe + k * 2, none⟩ = some (.int .u8 (y k : Int)) := (hI.kept.cell ⟨be, oe + k * 2, none⟩ hlt0 (fun h => h)).trans hc0
        have hd1 : wr.cell? ⟨be, oe + k * 2 + 1, none⟩ = some (.string (x k)) := (hI.kept.cell ⟨be, oe + k * 2 + 1, none⟩ hlt0 (fun h => h)).trans hc1
        have hLs : Hid (last (fun i => y i % 4) (k + 1) = upd (last (fun i => y i % 4) k) (y k % 4) k) := last_succ _ k
        have hj4 : (y k : Int) % 4 = ((y k % 4 : Nat) : Int) := by omega
        have hj : y k % 4 < 4 := Nat.mod_lt _ (by omega)
        have hDn := hD.put hj k
        have hnm := name5 wr (y k % 4) hj
        have hset := set_any hI (by omega) (y k % 4) (x k)
        generalize y k % 4 = j at hLs hj4 hj hDn hnm hset
        generalize y k = yk at hd0 hyk hj4
        have hLk : upd (last (fun i => y i % 4) k) j k j = some k := by simp [upd]
        have hDH : Hid (LD (D.put (key j) (.held (.string (x k)))) (upd (last (fun i => y i % 4) k) j k) x) := hDn
        clear he hy hDn hc0
        go_upto_region 9 with (first | (go_at_call 5; refine hnm.mono ?_; rintro e w' ⟨rfl, rfl⟩) | (go_at_call 6; refine hset.mono ?_; rintro e w2 ⟨⟨u, rfl⟩, b, hI2⟩))
        have hs7 := setting7 w2 W.heap.size (some b) _ _ _ hI2.cfg (nm j) (.string (x k)) true (look_some hI2.map hDH.out hj hLk)
        have e1 : w2.cell? ⟨be, oe + k * 2 + 1, none⟩ = some (.string (x k)) := (hI2.kept.cell ⟨be, oe + k * 2 + 1, none⟩ hlt0 (fun h => h)).trans hc1
        have e3 : w2.cell? ⟨W.heap.size, 3, none⟩ = some (.pointer none) := by simp only [World.cell?, show w2.heap[W.heap.size]? = _ from hI2.cfg]; rfl
        generalize x k = xk at e1 hs7
        go_wp2_with (go_at_call 7; refine hs7.mono ?_; rintro e w' ⟨rfl, rfl⟩)
        go_roundg (len - (k + 1))
        case measure => go_light; omega
        case rel => go_light; exact ⟨k + 1, by omega, rfl, by go_num, some b, cnt + 1, _, by omega, hI2, by rw [hLs.out]; exact hDH.out⟩
      · have hkz : ¬ ((k : Int) < (len : Int)) := by omega
        obtain rfl : k = len := by omega
        go_wp2
        go_meet
        case rel => go_light; exact ⟨m, cnt, D, hI, hD⟩
  case rest =>
    obtain ⟨m, cnt, D, hI, hD⟩ := hcut
    clear hI0
    have hcH : Hid (∀ i, i < len → ∃ b off, a = some ⟨b, off, none⟩ ∧ wc.cell? ⟨b, off + i * 2, none⟩ = some (.int .u8 (y i : Int)) ∧ wc.cell? ⟨b, off + i * 2 + 1, none⟩ = some (.string (x i))) := fun i hi => by
      obtain ⟨b, off, h1, h2, h3⟩ := he i hi
      have hlt0 : b < W.heap.size := World.block_lt_of_cell? _ _ h2
      exact ⟨b, off, h1, (hI.kept.cell ⟨b, off + i * 2, none⟩ hlt0 (fun h => h)).trans h2, (hI.kept.cell ⟨b, off + i * 2 + 1, none⟩ hlt0 (fun h => h)).trans h3⟩
    clear he
    go_upto_block 2 with fail
    go_cut [8] (fun d wx => wc = wx ∧ d = .int .i64 (dn (last (fun i => y i % 4) len) 4 : Int))
    case first =>
      go_wp2_with fail
      go_loopg [8, 9] 4 (fun gg d kk wr => wc = wr ∧ ∃ k : Nat, k ≤ 4 ∧ gg = 4 - k ∧ kk = .int .i64 (k : Int) ∧ d = .int .i64 (dn (last (fun i => y i % 4) len) k : Int))
      case atStart => exact ⟨rfl, 0, Nat.zero_le _, rfl, rfl, rfl⟩
      case round =>
        obtain ⟨rfl, k, hk, rfl, rfl, rfl⟩ := hrel
        by_cases hkn : k < 4
        · have hkz : (k : Int) < 4 := by omega
          go_upto_block 4 with fail
          go_cut [10] (fun l wx => wc = wx ∧ l = .int .i64 (idx (last (fun i => y i % 4) len k)))
          case first =>
            go_wp2_with fail
            go_loopg [10, 11] len (fun gg l ii wr => wc = wr ∧ ∃ i : Nat, i ≤ len ∧ gg = len - i ∧ ii = .int .i64 (i : Int) ∧ l = .int .i64 (idx (last (fun i => y i % 4) i k)))
            case atStart => exact ⟨rfl, 0, Nat.zero_le _, rfl, rfl, rfl⟩
            case round =>
              obtain ⟨rfl, i, hi, rfl, rfl, rfl⟩ := hrel
              by_cases hil : i < len
              · have hiz : (i : Int) < (len : Int) := by omega
                obtain ⟨be, oe, rfl, hd0, _⟩ := hcH.out i hil
                have hyi := hy i hil
                have hj4 : (y i : Int) % 4 = ((y i % 4 : Nat) : Int) := by omega
                by_cases hjk : k = y i % 4
                · have hL : Hid (last (fun i => y i % 4) (i + 1) k = some i) := by show _ = _; simp [last, ← hjk]
                  rw [← hjk] at hj4
                  generalize y i = yi at hd0 hyi hj4
                  clear hjk
                  go_wp2
                  go_roundg (len - (i + 1))
                  case measure => go_light; omega
                  case rel => go_light; exact ⟨rfl, i + 1, by omega, rfl, by go_num, by rw [hL.out]; rfl⟩
                · have hL : Hid (last (fun i => y i % 4) (i + 1) k = last (fun i => y i % 4) i k) := by show _ = _; simp [last, hjk]
                  have hjz : (((y i % 4 : Nat) : Int) == (k : Int)) = false := by simp; omega
                  generalize y i % 4 = j at hj4 hjz hjk
                  generalize y i = yi at hd0 hyi hj4
                  go_wp2
                  go_roundg (len - (i + 1))
                  case measure => go_light; omega
                  case rel => go_light; exact ⟨rfl, i + 1, by omega, rfl, by go_num, by rw [hL.out]⟩
              · have hiz : ¬ ((i : Int) < (len : Int)) := by omega
                obtain rfl : i = len := by omega
                go_wp2
                go_meet
                case rel => go_light; exact ⟨rfl, rfl⟩
          case rest =>
            obtain ⟨rfl, rfl⟩ := hcut
            have hnm := name5 wc k hkn
            have hdn : Hid (∀ b, (last (fun i => y i % 4) len k).isSome = b → dn (last (fun i => y i % 4) len) (k + 1) = dn (last (fun i => y i % 4) len) k + if b = true then 1 else 0) := fun b hb => by rw [← hb]; rfl
            cases hL : last (fun i => y i % 4) len k with
            | none =>
              have hs7 := setting7 wc W.heap.size m _ _ _ hI.cfg (nm k) (.string ⟨#[]⟩) false (look_none hI.map hD hkn hL)
              have hd1 : Hid (dn (last (fun i => y i % 4) len) (k + 1) = dn (last (fun i => y i % 4) len) k) := hdn.out false (by rw [hL]; rfl)
              clear hL
              generalize dn (last (fun i => y i % 4) len) k = dk at hd1 ⊢
              simp only [idx]
              go_wp2_with (first | (go_at_call 5; refine hnm.mono ?_; rintro e w' ⟨rfl, rfl⟩) | (go_at_call 7; refine hs7.mono ?_; rintro e w' ⟨rfl, rfl⟩))
              go_roundg (4 - (k + 1))
              case measure => go_light; omega
              case rel => go_light; exact ⟨rfl, k + 1, by omega, rfl, by go_num, by rw [hd1.out]⟩
            | some t =>
              have hs7 := setting7 wc W.heap.size m _ _ _ hI.cfg (nm k) (.string (x t)) true (look_some hI.map hD hkn hL)
              have htl := last_lt _ _ _ _ hL
              obtain ⟨be, oe, rfl, _, hd1c⟩ := hcH.out t htl
              have htz : (t : Int) < (len : Int) := by omega
              have htn : ¬ ((t : Int) < 0) := by omega
              have hd1 : Hid (dn (last (fun i => y i % 4) len) (k + 1) = dn (last (fun i => y i % 4) len) k + 1) := hdn.out true (by rw [hL]; rfl)
              have hdk : dn (last (fun i => y i % 4) len) k ≤ 10 := dn_le _ k (by omega)
              clear hL
              generalize dn (last (fun i => y i % 4) len) k = dk at hd1 hdk ⊢
              generalize x t = xt at hs7 hd1c
              simp only [idx]
              go_wp2_with (first | (go_at_call 5; refine hnm.mono ?_; rintro e w' ⟨rfl, rfl⟩) | (go_at_call 7; refine hs7.mono ?_; rintro e w' ⟨rfl, rfl⟩))
              go_roundg (4 - (k + 1))
              case measure => go_light; omega
              case rel => go_light; exact ⟨rfl, k + 1, by omega, rfl, by go_num, by rw [hd1.out]; go_num⟩
        · have hkz : ¬ ((k : Int) < 4) := by omega
          obtain rfl : k = 4 := by omega
          go_wp2
          go_meet
          case rel => go_light; exact ⟨rfl, rfl⟩
    case rest =>
      obtain ⟨rfl, rfl⟩ := hcut
      have hlen := len_cm hI.map hD
      have c0 : wc.cell? ⟨W.heap.size, 0, none⟩ = some (.map m) := by simp only [World.cell?, show wc.heap[W.heap.size]? = _ from hI.cfg]; rfl
      have c1 : wc.cell? ⟨W.heap.size, 1, none⟩ = some (.slice none 0 0) := by simp only [World.cell?, show wc.heap[W.heap.size]? = _ from hI.cfg]; rfl
      have c2 : wc.cell? ⟨W.heap.size, 2, none⟩ = some (.map none) := by simp only [World.cell?, show wc.heap[W.heap.size]? = _ from hI.cfg]; rfl
      have c3 : wc.cell? ⟨W.heap.size, 3, none⟩ = some (.pointer none) := by simp only [World.cell?, show wc.heap[W.heap.size]? = _ from hI.cfg]; rfl
      have hdk : dn (last (fun i => y i % 4) len) 4 ≤ 10 := dn_le _ 4 (by omega)
      generalize dn (last (fun i => y i % 4) len) 4 = dk at hlen hdk ⊢
      have nn := nil_nil
      have n25 := nil25
      go_wp2_with (first | (at_builtin; refine wpList_lenMap (by rfl) _ _ rfl _ rfl _ hlen ?_))
      go_ret
      exact ⟨rfl, hI.kept.below (Nat.le_refl _) (fun _ h => h.elim)⟩
end Go.Proofs.Ybulkcgsg
