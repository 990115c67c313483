/-
  LawS4137AFresh.
-/
import Derived.Test.YbulkcgqqStable
namespace Go.Proofs.Ybulkcgqq
open Go.RowKit

theorem nil26 (x : World) : (binOp .eql 26 (.slice none 0 0) (.slice none 0 0)).run Yba.prog x = .ok (.bool true) x := by kernel_rfl
theorem nil27 (x : World) : (binOp .eql 27 (.slice none 0 0) (.slice none 0 0)).run Yba.prog x = .ok (.bool true) x := by kernel_rfl
theorem nil28 (x : World) : (binOp .eql 28 (.slice none 0 0) (.slice none 0 0)).run Yba.prog x = .ok (.bool true) x := by kernel_rfl
theorem nil58 (x : World) : (binOp .neq 58 (.map none) (.map none)).run Yba.prog x = .ok (.bool false) x := by kernel_rfl
theorem nil59 (x : World) : (binOp .neq 59 (.slice none 0 0) (.slice none 0 0)).run Yba.prog x = .ok (.bool false) x := by kernel_rfl
theorem nil60 (x : World) : (binOp .neq 60 (.slice none 0 0) (.slice none 0 0)).run Yba.prog x = .ok (.bool false) x := by kernel_rfl

set_option maxRecDepth 100000 in
set_option maxHeartbeats 1000000 in
theorem fresh_not (W : World) (n : Nat) (hn : n ≤ 255) (j p : Int) (hj : (Lit.int .u32 j).wf = true) :
    Calls Yba.prog 3 #[.int .u8 (n : Int), .int .u32 j, .int .u32 p, .bool false] W fun e w' => e = .returned (.bool true) ∧ Below W.heap.size W w' := by
  have pe := ptr_eq
  have pn := ptr_neq
  have z58 := nil58
  have z59 := nil59
  have z60 := nil60
  go_enter Yba.func3, Yba.ntmps3
  go_upto_region 3 with (go_at_call 6; refine (new6 _ n hn).mono ?_; rintro e w1 ⟨Bt, bm, rfl, hT1, hK1, hbm⟩)
  have hT2 : TI (w1.alloc (.cells #[.slice none 0 0, .slice none 0 0, .slice none 0 0] 30)) Bt bm n 0 (.map []) := hT1.next (Kept.alloc w1 _ _)
  have ho1 := heap_alloc_new w1 (.cells #[.slice none 0 0, .slice none 0 0, .slice none 0 0] 30)
  have hKa : Kept W (w1.alloc (.cells #[.slice none 0 0, .slice none 0 0, .slice none 0 0] 30)) (fun _ => False) := hK1.trans (Kept.alloc w1 _ (fun _ => False)) (fun _ _ h => h)
  have hnew := judging_new _ Bt bm n 0 (.map []) hT2 hn (by omega) j hj rfl
  go_upto_region 7 with (go_at_call 7; refine hnew.mono ?_; rintro e w3 ⟨B2, rfl, hB2, hJ2, hT3, hK3⟩)
  have hs1 := hK1.size
  have hs3 := hK3.size
  rw [World.size_alloc] at hB2 hs3
  have hneB : B2 ≠ w1.heap.size := by omega
  have hneb : w1.heap.size ≠ bm := fun e => by
    obtain ⟨es, cl, hh⟩ := map_is hT2.map
    rw [← e, ho1] at hh; cases hh
  have hob := (hK3.block w1.heap.size (by simp) hneb).trans ho1
  obtain ⟨g0, g1, g2, hjb, _, _, _, r0, r1, r2⟩ := hJ2.all
  have sz1 : Maps.size ((DataW.map (H := Value) []).put (.int .u32 j) (.held (.pointer (some ⟨B2, 0, none⟩)))) = 1 := by rw [Maps.size_put Maps.tidy_empty]; rfl
  have hlen := hT3.len sz1
  have lk1 := look hT3.map hj (Maps.atKey_put_same Maps.tidy_empty.isMap (isKey _) _ _)
  have hKend : Kept W w3 (fun _ => False) := hKa.trans hK3 (fun x hx e => by omega)
  clear ho1 hKa sz1
  have hl2 := hJ2.lt
  have po := ptr_other hneB hjb hob
  have c8 := hT3.kept
  obtain ⟨adn, c3⟩ := hT3.nodes
  have cj0 : w3.cell? ⟨B2, 0, none⟩ = some (.slice (some ⟨g0, 0, none⟩) n n) := by simp only [World.cell?, hjb]; rfl
  have cj1 : w3.cell? ⟨B2, 1, none⟩ = some (.slice (some ⟨g1, 0, none⟩) n n) := by simp only [World.cell?, hjb]; rfl
  have cj2 : w3.cell? ⟨B2, 2, none⟩ = some (.slice (some ⟨g2, 0, none⟩) n n) := by simp only [World.cell?, hjb]; rfl
  have hTH : Hid (TI w3 Bt bm n _ _) := hT3
  clear hT1 hT2 hT3 hJ2 hjb hob hnew
  go_upto_block 0 with fail
  go_cut [] (fun wx => w3 = wx)
  case first =>
    go_wp2_with fail
    go_loopg [13] n (fun gg i wr => w3 = wr ∧ ∃ k : Nat, k ≤ n ∧ gg = n - k ∧ i = .int .i64 (k : Int))
    case atStart => exact ⟨rfl, 0, Nat.zero_le _, rfl, rfl⟩
    case round =>
      obtain ⟨rfl, k, hk, rfl, rfl⟩ := hrel
      by_cases hkn : k < n
      · have hkz : (k : Int) < (n : Int) := by omega
        have m0 := r0 k hkn
        have m1 := r1 k hkn
        have m2 := r2 k hkn
        go_wp2
        go_roundg (n - (k + 1))
        case measure => go_light; omega
        case rel => go_light; exact ⟨rfl, k + 1, by omega, rfl, by go_num⟩
      · have hkz : ¬ ((k : Int) < (n : Int)) := by omega
        go_wp2
        go_meet
        case rel => go_light; rfl
  case rest =>
    subst hcut
    go_wp2_with (first | (at_builtin; refine wpList_lenMap (by rfl) _ _ rfl _ rfl _ hlen ?_))
    go_ret
    exact ⟨rfl, hKend.below (Nat.le_refl _) (fun _ h => h.elim)⟩

set_option maxRecDepth 100000 in
set_option maxHeartbeats 1000000 in
theorem fresh_same (W : World) (n : Nat) (hn : n ≤ 255) (p : Int) (hp : (Lit.int .u32 p).wf = true) :
    Calls Yba.prog 3 #[.int .u8 (n : Int), .int .u32 p, .int .u32 p, .bool true] W fun e w' => e = .returned (.bool true) ∧ Below W.heap.size W w' := by
  have pe := ptr_eq
  have pn := ptr_neq
  have z26 := nil26
  have z27 := nil27
  have z28 := nil28
  have z58 := nil58
  have z59 := nil59
  have z60 := nil60
  go_enter Yba.func3, Yba.ntmps3
  go_upto_region 3 with (go_at_call 6; refine (new6 _ n hn).mono ?_; rintro e w1 ⟨Bt, bm, rfl, hT1, hK1, hbm⟩)
  have hTa : TI (w1.alloc (.cells #[.slice none 0 0, .slice none 0 0, .slice none 0 0] 30)) Bt bm n 0 (.map []) := hT1.next (Kept.alloc w1 _ _)
  have ho1 := heap_alloc_new w1 (.cells #[.slice none 0 0, .slice none 0 0, .slice none 0 0] 30)
  have hKa : Kept W (w1.alloc (.cells #[.slice none 0 0, .slice none 0 0, .slice none 0 0] 30)) (fun _ => False) := hK1.trans (Kept.alloc w1 _ (fun _ => False)) (fun _ _ h => h)
  have hneb : w1.heap.size ≠ bm := fun e => by
    obtain ⟨es, cl, hh⟩ := map_is hTa.map
    rw [← e, ho1] at hh; cases hh
  obtain ⟨w2, hrun, hown2, hg2⟩ := hTa.map.update (Maps.int_keyed Yba.underlying22) Yba.underlying37 (by unfold maxLen; omega) (key_u32 hp) (show hR (.pointer (some ⟨w1.heap.size, 0, none⟩)) = some (.held (.pointer (some ⟨w1.heap.size, 0, none⟩)), []) from rfl)
  have hT2 := hTa.put hown2 hg2
  have hK2 : Kept (w1.alloc (.cells #[.slice none 0 0, .slice none 0 0, .slice none 0 0] 30)) w2 (fun b => b = bm) := Kept.grown hg2 _ (fun b hb => (Option.some.inj hb).symm)
  have hs1 := hK1.size
  have hs2 := hK2.size
  rw [World.size_alloc] at hs2
  have hKb : Kept W w2 (fun _ => False) := hKa.trans hK2 (fun x hx e => by omega)
  have ho2 := (hK2.block w1.heap.size (by simp) hneb).trans ho1
  have sz1 : Maps.size ((DataW.map (H := Value) []).put (.int .u32 p) (.held (.pointer (some ⟨w1.heap.size, 0, none⟩)))) = 1 := by rw [Maps.size_put Maps.tidy_empty]; rfl
  have at1 : ∀ z, ((DataW.map (H := Value) []).put (.int .u32 p) (.held (.pointer (some ⟨w1.heap.size, 0, none⟩)))).atKey (.int .u32 p) z = .held (.pointer (some ⟨w1.heap.size, 0, none⟩)) := fun z => Maps.atKey_put_same Maps.tidy_empty.isMap (isKey _) _ z
  have ca8 := hTa.kept
  have hold := judging_old w2 Bt bm n 1 _ hT2 p hp ⟨w1.heap.size, 0, none⟩ (at1 _)
  have hlen := hT2.len sz1
  have c8 := hT2.kept
  have o0 : w2.cell? ⟨w1.heap.size, 0, none⟩ = some (.slice none 0 0) := by simp only [World.cell?, ho2]; rfl
  have o1 : w2.cell? ⟨w1.heap.size, 1, none⟩ = some (.slice none 0 0) := by simp only [World.cell?, ho2]; rfl
  have o2 : w2.cell? ⟨w1.heap.size, 2, none⟩ = some (.slice none 0 0) := by simp only [World.cell?, ho2]; rfl
  clear hT1 hTa hT2 hown2 hg2 hK2 ho1 ho2 hKa sz1 at1
  go_wp2_with (first | (go_at_call 7; refine hold.mono ?_; rintro e w4 ⟨rfl, rfl⟩) | (at_builtin; refine wpList_lenMap (by rfl) _ _ rfl _ rfl _ hlen ?_))
  go_ret
  exact ⟨rfl, hKb.below (Nat.le_refl _) (fun _ h => h.elim)⟩

set_option maxRecDepth 100000 in
set_option maxHeartbeats 1000000 in
theorem fresh_other (W : World) (n : Nat) (hn : n ≤ 255) (j p : Int) (hj : (Lit.int .u32 j).wf = true) (hp : (Lit.int .u32 p).wf = true) (hne : p ≠ j) :
    Calls Yba.prog 3 #[.int .u8 (n : Int), .int .u32 j, .int .u32 p, .bool true] W fun e w' => e = .returned (.bool true) ∧ Below W.heap.size W w' := by
  have pe := ptr_eq
  have pn := ptr_neq
  have z26 := nil26
  have z27 := nil27
  have z28 := nil28
  have z58 := nil58
  have z59 := nil59
  have z60 := nil60
  go_enter Yba.func3, Yba.ntmps3
  go_upto_region 3 with (go_at_call 6; refine (new6 _ n hn).mono ?_; rintro e w1 ⟨Bt, bm, rfl, hT1, hK1, hbm⟩)
  have hTa : TI (w1.alloc (.cells #[.slice none 0 0, .slice none 0 0, .slice none 0 0] 30)) Bt bm n 0 (.map []) := hT1.next (Kept.alloc w1 _ _)
  have ho1 := heap_alloc_new w1 (.cells #[.slice none 0 0, .slice none 0 0, .slice none 0 0] 30)
  have hKa : Kept W (w1.alloc (.cells #[.slice none 0 0, .slice none 0 0, .slice none 0 0] 30)) (fun _ => False) := hK1.trans (Kept.alloc w1 _ (fun _ => False)) (fun _ _ h => h)
  have hneb : w1.heap.size ≠ bm := fun e => by
    obtain ⟨es, cl, hh⟩ := map_is hTa.map
    rw [← e, ho1] at hh; cases hh
  obtain ⟨w2, hrun, hown2, hg2⟩ := hTa.map.update (Maps.int_keyed Yba.underlying22) Yba.underlying37 (by unfold maxLen; omega) (key_u32 hp) (show hR (.pointer (some ⟨w1.heap.size, 0, none⟩)) = some (.held (.pointer (some ⟨w1.heap.size, 0, none⟩)), []) from rfl)
  have hT2 := hTa.put hown2 hg2
  have hK2 : Kept (w1.alloc (.cells #[.slice none 0 0, .slice none 0 0, .slice none 0 0] 30)) w2 (fun b => b = bm) := Kept.grown hg2 _ (fun b hb => (Option.some.inj hb).symm)
  have hs1 := hK1.size
  have hs2 := hK2.size
  rw [World.size_alloc] at hs2
  have hKb : Kept W w2 (fun _ => False) := hKa.trans hK2 (fun x hx e => by omega)
  have ho2 := (hK2.block w1.heap.size (by simp) hneb).trans ho1
  have sz1 : Maps.size ((DataW.map (H := Value) []).put (.int .u32 p) (.held (.pointer (some ⟨w1.heap.size, 0, none⟩)))) = 1 := by rw [Maps.size_put Maps.tidy_empty]; rfl
  have at1 : ∀ z, ((DataW.map (H := Value) []).put (.int .u32 p) (.held (.pointer (some ⟨w1.heap.size, 0, none⟩)))).atKey (.int .u32 p) z = .held (.pointer (some ⟨w1.heap.size, 0, none⟩)) := fun z => Maps.atKey_put_same Maps.tidy_empty.isMap (isKey _) _ z
  have ca8 := hTa.kept
  have hjp : j ≠ p := fun e => hne e.symm
  have hnew := judging_new w2 Bt bm n 1 _ hT2 hn (by omega) j hj (by rw [Maps.atKey_put_other (lit_ne hjp)]; rfl)
  have hpj : (p == j) = false := by simp [hne]
  go_upto_region 7 with (go_at_call 7; refine hnew.mono ?_; rintro e w3 ⟨B2, rfl, hB2, hJ2, hT3, hK3⟩)
  have hneB : B2 ≠ w1.heap.size := by omega
  have hob := (hK3.block w1.heap.size (by omega) hneb).trans ho2
  obtain ⟨g0, g1, g2, hjb, _, _, _, r0, r1, r2⟩ := hJ2.all
  have hhas : Maps.has ((DataW.map (H := Value) []).put (.int .u32 p) (.held (.pointer (some ⟨w1.heap.size, 0, none⟩)))) (.int .u32 j) = false := by rw [Maps.has_put_other (lit_ne hjp)]; rfl
  have sz2 : Maps.size (((DataW.map (H := Value) []).put (.int .u32 p) (.held (.pointer (some ⟨w1.heap.size, 0, none⟩)))).put (.int .u32 j) (.held (.pointer (some ⟨B2, 0, none⟩)))) = 2 := by
    rw [Maps.size_put hT2.tidy, hhas, sz1]; rfl
  have hlen := hT3.len sz2
  have lk1 := look hT3.map hj (Maps.atKey_put_same hT2.tidy.isMap (isKey _) _ _)
  have lk2 := look hT3.map hp (v := .pointer (some ⟨w1.heap.size, 0, none⟩)) (by rw [Maps.atKey_put_other (lit_ne hne)]; exact at1 _)
  have hKend : Kept W w3 (fun _ => False) := hKb.trans hK3 (fun x hx e => by omega)
  clear hTa hown2 hg2 hK2 ho1 ho2 hKa sz1 sz2 at1 hhas
  have hl2 := hJ2.lt
  have po := ptr_other hneB hjb hob
  have c8 := hT3.kept
  obtain ⟨adn, c3⟩ := hT3.nodes
  have cj0 : w3.cell? ⟨B2, 0, none⟩ = some (.slice (some ⟨g0, 0, none⟩) n n) := by simp only [World.cell?, hjb]; rfl
  have cj1 : w3.cell? ⟨B2, 1, none⟩ = some (.slice (some ⟨g1, 0, none⟩) n n) := by simp only [World.cell?, hjb]; rfl
  have cj2 : w3.cell? ⟨B2, 2, none⟩ = some (.slice (some ⟨g2, 0, none⟩) n n) := by simp only [World.cell?, hjb]; rfl
  have hTH : Hid (TI w3 Bt bm n _ _) := hT3
  clear hT1 hT2 hT3 hJ2 hjb hob hnew
  go_upto_block 0 with fail
  go_cut [] (fun wx => w3 = wx)
  case first =>
    go_wp2_with fail
    go_loopg [13] n (fun gg i wr => w3 = wr ∧ ∃ k : Nat, k ≤ n ∧ gg = n - k ∧ i = .int .i64 (k : Int))
    case atStart => exact ⟨rfl, 0, Nat.zero_le _, rfl, rfl⟩
    case round =>
      obtain ⟨rfl, k, hk, rfl, rfl⟩ := hrel
      by_cases hkn : k < n
      · have hkz : (k : Int) < (n : Int) := by omega
        have m0 := r0 k hkn
        have m1 := r1 k hkn
        have m2 := r2 k hkn
        go_wp2
        go_roundg (n - (k + 1))
        case measure => go_light; omega
        case rel => go_light; exact ⟨rfl, k + 1, by omega, rfl, by go_num⟩
      · have hkz : ¬ ((k : Int) < (n : Int)) := by omega
        go_wp2
        go_meet
        case rel => go_light; rfl
  case rest =>
    subst hcut
    go_wp2_with (first | (at_builtin; refine wpList_lenMap (by rfl) _ _ rfl _ rfl _ hlen ?_))
    go_ret
    exact ⟨rfl, hKend.below (Nat.le_refl _) (fun _ h => h.elim)⟩

end Go.Proofs.Ybulkcgqq
