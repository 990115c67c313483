/-
  LawS4137AStable.
-/
import Derived.Test.YbulkcgqqJudging
import Derived.ProofKit
import Derived.OpenShut
import Derived.ChangeOld
import Derived.WalkLawsBesides
namespace Go.Proofs.Ybulkcgqq
open Go.RowKit

theorem lit_ne {a b : Int} (h : a ≠ b) : (Lit.int .u32 a) ≠ Lit.int .u32 b := fun e => by
  simp only [Lit.int.injEq, true_and] at e
  exact h e

theorem TI.len {w : World} {Bt bm n cnt : Nat} {D : DataW Value} (h : TI w Bt bm n cnt D) {s : Nat} (hs : Maps.size D = s) : ∀ ty, (Builtin.len_ #[37] ty #[.map (some bm)]).run Yba.prog w = .ok (.int .i64 (s : Int)) w := fun ty => by
  rw [← hs]; exact h.map.len Yba.underlying37 ty

set_option maxRecDepth 100000 in
set_option maxHeartbeats 1000000 in
theorem stable_walk (W : World) (n : Nat) (hn : n ≤ 255) (a b : Int) (ha : (Lit.int .u32 a).wf = true) (hb : (Lit.int .u32 b).wf = true) :
    Calls Yba.prog 4 #[.int .u8 (n : Int), .int .u32 a, .int .u32 b] W fun e w' => e = .returned (.bool true) ∧ Below W.heap.size W w' := by
  have pe := ptr_eq
  have pn := ptr_neq
  go_enter Yba.func4, Yba.ntmps4
  go_upto_region 3 with (go_at_call 6; refine (new6 _ n hn).mono ?_; rintro e w1 ⟨Bt, bm, rfl, hT1, hK1, hbm⟩)
  go_upto_region 4 with (go_at_call 7; refine (judging_new w1 Bt bm n 0 (.map []) hT1 hn (by omega) a ha rfl).mono ?_; rintro e w2 ⟨B1, rfl, hB1, hJ1, hT2, hK2⟩)
  have hl1 := hJ1.lt
  have hs1 := hK1.size
  have hs2 := hK2.size
  have hK12 : Kept W w2 (fun _ => False) := hK1.trans hK2 (fun x hx e => by omega)
  have sz1 : Maps.size ((DataW.map (H := Value) []).put (.int .u32 a) (.held (.pointer (some ⟨B1, 0, none⟩)))) = 1 := by rw [Maps.size_put Maps.tidy_empty]; rfl
  have at1 : ∀ z, ((DataW.map (H := Value) []).put (.int .u32 a) (.held (.pointer (some ⟨B1, 0, none⟩)))).atKey (.int .u32 a) z = .held (.pointer (some ⟨B1, 0, none⟩)) := fun z => Maps.atKey_put_same Maps.tidy_empty.isMap (isKey _) _ z
  by_cases hab : a = b
  · subst hab
    have hlen := hT2.len sz1
    have hold := judging_old w2 Bt bm n 1 _ hT2 a ha ⟨B1, 0, none⟩ (at1 _)
    have c8 := hT2.kept
    generalize hD : (DataW.map (H := Value) []).put (.int .u32 a) (.held (.pointer (some ⟨B1, 0, none⟩))) = D1 at hT2 hold
    clear hT1 hT2 hJ1 at1 sz1 hD
    go_wp2_with (first | (go_at_call 7; refine hold.mono ?_; rintro e w3 ⟨rfl, rfl⟩) | (at_builtin; refine wpList_lenMap (by rfl) _ _ rfl _ rfl _ hlen ?_))
    go_ret
    exact ⟨rfl, hK12.below (Nat.le_refl _) (fun _ h => h.elim)⟩
  · have hbne : b ≠ a := fun e => hab e.symm
    have hnew := judging_new w2 Bt bm n 1 _ hT2 hn (by omega) b hb (by rw [Maps.atKey_put_other (lit_ne hbne)]; rfl)
    go_upto_region 5 with (go_at_call 7; refine hnew.mono ?_; rintro e w3 ⟨B2, rfl, hB2, hJ2, hT3, hK3⟩)
    have hs3 := hK3.size
    have hne1 : ¬ B2 = B1 := by omega
    have hne2 : ¬ B1 = B2 := by omega
    have hhas : Maps.has ((DataW.map (H := Value) []).put (.int .u32 a) (.held (.pointer (some ⟨B1, 0, none⟩)))) (.int .u32 b) = false := by rw [Maps.has_put_other (lit_ne hbne)]; rfl
    have sz2 : Maps.size (((DataW.map (H := Value) []).put (.int .u32 a) (.held (.pointer (some ⟨B1, 0, none⟩)))).put (.int .u32 b) (.held (.pointer (some ⟨B2, 0, none⟩)))) = 2 := by
      rw [Maps.size_put hT2.tidy, hhas, sz1]; rfl
    have at2 : ∀ z, (((DataW.map (H := Value) []).put (.int .u32 a) (.held (.pointer (some ⟨B1, 0, none⟩)))).put (.int .u32 b) (.held (.pointer (some ⟨B2, 0, none⟩)))).atKey (.int .u32 a) z = .held (.pointer (some ⟨B1, 0, none⟩)) := fun z => by
      rw [Maps.atKey_put_other (lit_ne hab)]; exact at1 z
    have at3 : ∀ z, (((DataW.map (H := Value) []).put (.int .u32 a) (.held (.pointer (some ⟨B1, 0, none⟩)))).put (.int .u32 b) (.held (.pointer (some ⟨B2, 0, none⟩)))).atKey (.int .u32 b) z = .held (.pointer (some ⟨B2, 0, none⟩)) := fun z => Maps.atKey_put_same hT2.tidy.isMap (isKey _) _ z
    have hold := judging_old w3 Bt bm n 2 _ hT3 a ha ⟨B1, 0, none⟩ (at2 _)
    have hlen := hT3.len sz2
    have lk1 := look hT3.map ha (at2 _)
    have lk2 := look hT3.map hb (at3 _)
    have c8 := hT3.kept
    obtain ⟨g0, g1, g2, hjb, _⟩ := hJ2.all
    obtain ⟨k0, k1, k2, hjc, _⟩ := (hJ1.kept hK3 (map_is hT2.map)).all
    have po := ptr_other hne1 hjb hjc
    have cj0 : w3.cell? ⟨B2, 0, none⟩ = some (.slice (some ⟨g0, 0, none⟩) n n) := by simp only [World.cell?, hjb]; rfl
    have cj1 : w3.cell? ⟨B2, 1, none⟩ = some (.slice (some ⟨g1, 0, none⟩) n n) := by simp only [World.cell?, hjb]; rfl
    have cj2 : w3.cell? ⟨B2, 2, none⟩ = some (.slice (some ⟨g2, 0, none⟩) n n) := by simp only [World.cell?, hjb]; rfl
    have habz : (a == b) = false := by simp [hab]
    clear hT1 hT2 hT3 hJ1 hJ2 at1 at2 at3 sz1 sz2 hhas hjb hjc hnew
    go_wp2_with (first | (go_at_call 7; refine hold.mono ?_; rintro e w4 ⟨rfl, rfl⟩) | (at_builtin; refine wpList_lenMap (by rfl) _ _ rfl _ rfl _ hlen ?_))
    go_ret
    exact ⟨rfl, (hK12.trans hK3 (fun x hx e => by omega)).below (Nat.le_refl _) (fun _ h => h.elim)⟩

end Go.Proofs.Ybulkcgqq
