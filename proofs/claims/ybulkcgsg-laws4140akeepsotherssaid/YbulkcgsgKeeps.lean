/-
  LawS4140AKeepsOthers.
-/
import Derived.Test.YbulkcgsgBase
import Derived.ProofKit
import Derived.OpenShut
import Derived.ChangeOld
import Derived.ChangeMaps5
import Derived.WalkLawsBesides
namespace Go.Proofs.Ybulkcgsg
open Go.RowKit

/-- One entry. -/
def one (s v : ByteArray) : DataW Value := (DataW.map (H := Value) []).put (.string s.data.toList) (.held (.string v))
theorem one_tidy (s v : ByteArray) : Maps.Tidy (one s v) := Maps.tidy_empty.put (isKey _) _
theorem one_at (s v : ByteArray) (z : DataW Value) : (one s v).atKey (.string s.data.toList) z = .held (.string v) := Maps.atKey_put_same Maps.tidy_empty.isMap (isKey _) _ z
theorem one_has (s v : ByteArray) : Maps.has (one s v) (.string s.data.toList) = true := Maps.has_put_same Maps.tidy_empty.isMap (isKey _) _
theorem one_size (s v : ByteArray) : Maps.size (one s v) = 1 := by unfold one; rw [Maps.size_put Maps.tidy_empty]; rfl
theorem data_ne {a b : ByteArray} (h : a ≠ b) : a.data.toList ≠ b.data.toList := fun e => h (by
  cases a; cases b
  congr 1
  exact Array.toList_inj.1 e)

theorem len24 {w : World} {b n : Nat} {D : DataW Value} (h : w.ownsMap Yba.prog 9 hR b n D) {s : Nat} (hs : Maps.size D = s) : ∀ ty, (Builtin.len_ #[24] ty #[.map (some b)]).run Yba.prog w = .ok (.int .i64 (s : Int)) w := fun ty => by
  rw [← hs]; exact h.len Yba.underlying24 ty

/-- What stands behind the law's set-up. -/
structure KI (W wx : World) (o ov sv cm : ByteArray) (Bc Bm Bs Bd : Nat) (bd : Option Addr) : Prop where
  cfg : Cfg wx Bc (some Bm) (.slice (some ⟨Bs, 0, none⟩) 1 1) (.map (some Bd)) (.pointer bd)
  map : wx.ownsMap Yba.prog 9 hR Bm 1 (one o ov)
  del : wx.ownsMap Yba.prog 9 hR Bd 1 (one sv cm)
  srv : wx.heap[Bs]? = some (.cells #[.string sv, .string cm] 37 (0, 0))
  kept : Kept W wx (fun _ => False)
  l0 : W.heap.size ≤ Bm
  l1 : Bm < Bs
  l2 : Bs < Bd
  l3 : Bd < Bc

theorem keeps_start {W w1 w2 : World} {o ov sv cm : ByteArray} (o45 : Obj) (m1 : w1.ownsMap Yba.prog 9 hR W.heap.size (0 + 1) (one o ov)) (g1 : (W.alloc (.map #[] 0)).grownBy w1 (some W.heap.size))
    (m2 : w2.ownsMap Yba.prog 9 hR (w1.heap.size + 1) (0 + 1) (one sv cm)) (g2 : ((w1.alloc (.cells #[.string sv, .string cm] 37)).alloc (.map #[] 0)).grownBy w2 (some (w1.heap.size + 1))) :
    KI W ((w2.alloc o45).alloc (.cells #[.map (some W.heap.size), .slice (some ⟨w1.heap.size, 0, none⟩) 1 1, .map (some (w1.heap.size + 1)), .pointer (some ⟨w2.heap.size, 0, none⟩)] 28)) o ov sv cm (w2.heap.size + 1) W.heap.size w1.heap.size (w1.heap.size + 1) (some ⟨w2.heap.size, 0, none⟩) := by
  have k1 := g1.size
  have k2 := g2.size
  simp only [World.size_alloc] at k1 k2
  have e2 : (w2.alloc o45).heap.size = w2.heap.size + 1 := by simp
  have hb := heap_alloc_new (w2.alloc o45) (.cells #[.map (some W.heap.size), .slice (some ⟨w1.heap.size, 0, none⟩) 1 1, .map (some (w1.heap.size + 1)), .pointer (some ⟨w2.heap.size, 0, none⟩)] 28)
  rw [e2] at hb
  have hK2 : Kept ((w1.alloc (.cells #[.string sv, .string cm] 37)).alloc (.map #[] 0)) w2 (fun b => b = w1.heap.size + 1) := Kept.grown g2 _ (fun b hb => (Option.some.inj hb).symm)
  have hK1 : Kept W w1 (fun _ => False) := (Kept.alloc W (.map #[] 0) (fun _ => False)).trans (Kept.grown g1 (fun b => b = W.heap.size) (fun b hb => (Option.some.inj hb).symm)) (fun x hx e => by omega)
  have hK12 : Kept w1 w2 (fun _ => False) := ((Kept.alloc w1 _ (fun _ => False)).trans (Kept.alloc _ _ (fun _ => False)) (fun _ _ h => h)).trans hK2 (fun x hx e => by omega)
  have hfin : ∀ (b : Nat) (ob : Obj), b < w2.heap.size → ((w2.alloc o45).alloc ob).heap[b]? = w2.heap[b]? := fun b ob hb => (Below.heap_alloc _ _ _ (by rw [e2]; omega)).trans (Below.heap_alloc _ _ _ hb)
  refine ⟨hb, ?_, ?_, ?_, ?_, Nat.le_refl _, by omega, by omega, by omega⟩
  · exact map_block m1 ((hfin _ _ (by omega)).trans (hK12.block _ (by omega) (fun h => h)))
  · exact map_block m2 (hfin _ _ (by omega))
  · rw [hfin _ _ (by omega), hK2.block _ (by simp; omega) (by omega), Below.heap_alloc _ _ _ (by simp)]
    exact heap_alloc_new w1 _
  · exact ((hK1.trans hK12 (fun _ _ h => h)).trans (Kept.alloc _ _ (fun _ => False)) (fun _ _ h => h)).trans (Kept.alloc _ _ (fun _ => False)) (fun _ _ h => h)

set_option maxRecDepth 100000 in
set_option maxHeartbeats 1000000 in
theorem keeps_walk (W : World) (o ov nm vl sv cm : ByteArray) (ho : o.size ≤ maxLen) (hn : nm.size ≤ maxLen) (hs : sv.size ≤ maxLen) :
    Calls Yba.prog 4 #[.string o, .string ov, .string nm, .string vl, .string sv, .string cm] W fun e w' => e = .returned (.bool true) ∧ Below W.heap.size W w' := by
  obtain ⟨w1, r1, m1, g1⟩ := (World.ownsMap_made (H := Value) W Yba.prog 9 hR).update (Maps.string_keyed Yba.underlying9) Yba.underlying24 (by unfold maxLen; omega) (key_str ho) (show hR (.string ov) = some (.held (.string ov), []) from rfl)
  obtain ⟨w2, r2, m2, g2⟩ := (World.ownsMap_made (H := Value) (w1.alloc (.cells #[.string sv, .string cm] 37)) Yba.prog 9 hR).update (Maps.string_keyed Yba.underlying9) Yba.underlying24 (by unfold maxLen; omega) (key_str hs) (show hR (.string cm) = some (.held (.string cm), []) from rfl)
  have hmm : ∀ (x : World), (Instr.makeMap 24 none).run Yba.prog x = .ok (.map (some x.heap.size)) (x.alloc (.map #[] 0)) := fun x => by simp [Instr.makeMap]
  rw [World.size_alloc] at r2 m2 g2
  have k1 := g1.size
  have k2 := g2.size
  simp only [World.size_alloc] at k1 k2
  go_enter Yba.func4, Yba.ntmps4
  go_upto_region 1 with fail
  go_cut [13] (fun p wx => ∃ Bc Bm Bs Bd bd, p = .pointer (some ⟨Bc, 0, none⟩) ∧ KI W wx o ov sv cm Bc Bm Bs Bd bd)
  case first =>
    go_wp2_with fail
    go_meet
    case rel => go_light; exact ⟨_, _, _, _, _, rfl, keeps_start _ m1 g1 m2 g2⟩
  case rest =>
    obtain ⟨Bc, Bm, Bs, Bd, bd, rfl, hI⟩ := hcut
    clear r1 m1 g1 r2 m2 g2 hmm
    go_upto_region 3 with (go_at_call 6; refine (set6 _ Bc Bm 1 (one o ov) _ _ bd hI.cfg hI.map (by omega) nm vl hn).mono ?_; rintro e w3 ⟨⟨u, rfl⟩, hC3, hm3, hK3⟩)
    have l0 := hI.l0
    have l1 := hI.l1
    have l2 := hI.l2
    have l3 := hI.l3
    have hd3 : w3.ownsMap Yba.prog 9 hR Bd 1 (one sv cm) := map_block hI.del (hK3.block _ hI.del.lt (by omega))
    have hs3 : w3.heap[Bs]? = some (.cells #[.string sv, .string cm] 37 (0, 0)) := (hK3.block _ (lt_of_block hI.srv) (by omega)).trans hI.srv
    have hKe : Kept W w3 (fun _ => False) := hI.kept.trans hK3 (fun x hx e => by omega)
    have c0 : w3.cell? ⟨Bc, 0, none⟩ = some (.map (some Bm)) := by simp only [World.cell?, show w3.heap[Bc]? = _ from hC3]; rfl
    have c1 : w3.cell? ⟨Bc, 1, none⟩ = some (.slice (some ⟨Bs, 0, none⟩) 1 1) := by simp only [World.cell?, show w3.heap[Bc]? = _ from hC3]; rfl
    have c2 : w3.cell? ⟨Bc, 2, none⟩ = some (.map (some Bd)) := by simp only [World.cell?, show w3.heap[Bc]? = _ from hC3]; rfl
    have c3 : w3.cell? ⟨Bc, 3, none⟩ = some (.pointer none) := by simp only [World.cell?, show w3.heap[Bc]? = _ from hC3]; rfl
    have s0 : w3.cell? ⟨Bs, 0, none⟩ = some (.string sv) := by simp only [World.cell?, hs3]; rfl
    have s1 : w3.cell? ⟨Bs, 1, none⟩ = some (.string cm) := by simp only [World.cell?, hs3]; rfl
    have lkd := look hd3 hs (one_at sv cm _) (one_has sv cm)
    have lnd := len24 hd3 (one_size sv cm)
    have tid := (one_tidy o ov)
    have lk1 := look hm3 hn (Maps.atKey_put_same tid.isMap (isKey _) _ _) (Maps.has_put_same tid.isMap (isKey _) _)
    have hset1 := setting7 w3 Bc (some Bm) _ _ _ hC3 nm (.string vl) true lk1
    by_cases hno : nm = o
    · subst hno
      have sz : Maps.size ((one nm ov).put (.string nm.data.toList) (.held (.string vl))) = 1 := by rw [Maps.size_put tid, one_has, one_size]; rfl
      have ln1 := len24 hm3 sz
      clear hC3 hm3 hd3 hs3 hI sz tid hK3
      go_wp2_with (first | (go_at_call 7; refine hset1.mono ?_; rintro e w4 ⟨rfl, rfl⟩) | (at_builtin; first | (refine wpList_lenMap (by rfl) _ _ rfl _ rfl _ ln1 ?_) | (refine wpList_lenMap (by rfl) _ _ rfl _ rfl _ lnd ?_)))
      go_ret
      exact ⟨rfl, hKe.below (Nat.le_refl _) (fun _ h => h.elim)⟩
    · have hon : o ≠ nm := fun e => hno e.symm
      have hhas : Maps.has (one o ov) (.string nm.data.toList) = false := by unfold one; rw [Maps.has_put_other (lit_ne (data_ne hno))]; rfl
      have sz : Maps.size ((one o ov).put (.string nm.data.toList) (.held (.string vl))) = 2 := by rw [Maps.size_put tid, hhas, one_size]; rfl
      have ln1 := len24 hm3 sz
      have lk2 := look hm3 ho (v := .string ov) (ok := true) (by rw [Maps.atKey_put_other (lit_ne (data_ne hon))]; exact one_at o ov _) (by rw [Maps.has_put_other (lit_ne (data_ne hon))]; exact one_has o ov)
      have hnoz : (nm.toList == o.toList) = false := by
        rw [ByteArray.toList_eq, ByteArray.toList_eq]; simpa using data_ne hno
      have hset2 := setting7 w3 Bc (some Bm) _ _ _ hC3 o (.string ov) true lk2
      clear hC3 hm3 hd3 hs3 hI sz tid hK3 hhas
      go_upto_region 8 with (go_at_call 7; refine hset1.mono ?_; rintro e w4 ⟨rfl, rfl⟩)
      clear hset1
      go_upto_region 11 with fail
      go_wp2_with (first | (go_at_call 7; refine hset2.mono ?_; rintro e w4 ⟨rfl, rfl⟩) | (at_builtin; first | (refine wpList_lenMap (by rfl) _ _ rfl _ rfl _ ln1 ?_) | (refine wpList_lenMap (by rfl) _ _ rfl _ rfl _ lnd ?_)))
      go_ret
      exact ⟨rfl, hKe.below (Nat.le_refl _) (fun _ h => h.elim)⟩
end Go.Proofs.Ybulkcgsg
