/-
  The judgings of an instances: zzs4137anew, judging.
-/
import Derived.Test.YbulkcgqqBase
import Derived.Deep.OwnRows
import Derived.LaidEqlPtr
import Derived.Lib.Builder
namespace Go.Proofs.Ybulkcgqq
open Go.RowKit

theorem info58 : (Yba.prog.info? 58).map (fun i => (i.zero, i.size, i.bytes)) = some (some (.map none), 1, 8) := by kernel_rfl
theorem info59 : (Yba.prog.info? 59).map (fun i => (i.zero, i.size, i.bytes)) = some (some (.slice none 0 0), 1, 24) := by kernel_rfl
theorem info60 : (Yba.prog.info? 60).map (fun i => (i.zero, i.size, i.bytes)) = some (some (.slice none 0 0), 1, 24) := by kernel_rfl
theorem info128 : (Yba.prog.info? 128).map (fun i => (i.zero.isSome, decide (i.bytes ≤ 10000))) = some (true, true) := by kernel_rfl

theorem info30 : (Yba.prog.info? 30).map (fun i => decide (i.size = 0)) = some false := by kernel_rfl
theorem ptr_eq (w : World) (p : Addr) : (binOp .eql 25 (.pointer (some p)) (.pointer (some p))).run Yba.prog w = .ok (.bool true) w := by
  obtain ⟨i, hi, _⟩ := Option.map_eq_some_iff.1 info30
  exact run_eql_ptr_same w p Yba.underlying25 hi
theorem ptr_neq (w : World) (p : Addr) : (binOp .neq 25 (.pointer (some p)) (.pointer (some p))).run Yba.prog w = .ok (.bool false) w := by
  obtain ⟨i, hi, _⟩ := Option.map_eq_some_iff.1 info30
  exact Lib.run_neq_ptr_same w p Yba.underlying25 hi
theorem ptr_other {w : World} {a b : Nat} {ca cb : Array Value} {ta tb : TypeId} (hne : a ≠ b) (ha : w.heap[a]? = some (.cells ca ta (0, 0))) (hb : w.heap[b]? = some (.cells cb tb (0, 0))) : (binOp .eql 25 (.pointer (some ⟨a, 0, none⟩)) (.pointer (some ⟨b, 0, none⟩))).run Yba.prog w = .ok (.bool false) w := by
  obtain ⟨i, hi, hz⟩ := Option.map_eq_some_iff.1 info30
  exact run_eql_ptr_other w Yba.underlying25 hi (by simpa using hz) (fun e => hne (congrArg Addr.block e)) ha hb

/-- An element of the map is held as it is. -/
def hR (v : Value) : Option (DataW Value × List MemPlace) := some (.held v, [])
theorem key_u32 {j : Int} (h : (Lit.int .u32 j).wf = true) : keyOf Yba.prog 22 (.int .u32 j) = some (.int .u32 j) := by
  simp [keyOf, Yba.underlying22, mapKey, h]
theorem zero25 (w : World) : (zeroValue 25).run Yba.prog w = .ok (.pointer none) w := by kernel_rfl
theorem isKey (j : Int) : WideAt.IsKeyLit (.int .u32 j) := trivial

theorem look {w : World} {b n : Nat} {D : DataW Value} (h : w.ownsMap Yba.prog 22 hR b n D) {j : Int} (hj : (Lit.int .u32 j).wf = true) {v : Value} (hv : D.atKey (.int .u32 j) (.held (.pointer none)) = .held v) :
    (Instr.lookup 37 (.map (some b)) (.int .u32 j) false).run Yba.prog w = .ok v w := by
  obtain ⟨v', ps, hr, h2⟩ := h.lookup (Maps.int_keyed Yba.underlying22) Yba.underlying37 (zero25 w) (show hR (.pointer none) = some (.held (.pointer none), []) from rfl) (key_u32 hj)
  simp only [hR, Option.some.injEq, Prod.mk.injEq] at h2
  rw [hv] at h2
  obtain ⟨h3, _⟩ := h2
  cases h3
  exact hr

/-- The instances at block Bt. -/
structure TI (w : World) (Bt bm n cnt : Nat) (D : DataW Value) : Prop where
  nodes : ∃ ad, w.cell? ⟨Bt, 3, none⟩ = some (.slice ad n n)
  kept : w.cell? ⟨Bt, 8, none⟩ = some (.map (some bm))
  map : w.ownsMap Yba.prog 22 hR bm cnt D
  tidy : Maps.Tidy D

theorem TI.of {w : World} {Bt bm n cnt : Nat} {D : DataW Value} {cs : Array Value} {ad : Option Addr} (h : w.heap[Bt]? = some (.cells cs 56 (0, 0))) (h3 : cs[3]? = some (.slice ad n n)) (h8 : cs[8]? = some (.map (some bm))) (hm : w.ownsMap Yba.prog 22 hR bm cnt D) (ht : Maps.Tidy D) : TI w Bt bm n cnt D :=
  ⟨⟨ad, by simp only [World.cell?, h]; exact h3⟩, by simp only [World.cell?, h]; exact h8, hm, ht⟩
theorem TI.ltb {w : World} {Bt bm n cnt : Nat} {D : DataW Value} (h : TI w Bt bm n cnt D) : Bt < w.heap.size := World.block_lt_of_cell? _ _ h.kept
theorem TI.ne {w : World} {Bt bm n cnt : Nat} {D : DataW Value} (h : TI w Bt bm n cnt D) : Bt ≠ bm := fun e => by
  subst e
  obtain ⟨es, cl, hh⟩ := map_is h.map
  have := h.kept
  simp [World.cell?, hh] at this
theorem TI.next {w w' : World} {Bt bm n cnt : Nat} {D : DataW Value} (h : TI w Bt bm n cnt D) (hK : Kept w w' (fun _ => False)) : TI w' Bt bm n cnt D := by
  obtain ⟨ad, had⟩ := h.nodes
  exact ⟨⟨ad, (hK.cell ⟨Bt, 3, none⟩ h.ltb (fun h => h)).trans had⟩, (hK.cell ⟨Bt, 8, none⟩ h.ltb (fun h => h)).trans h.kept, map_block h.map (hK.block _ h.map.lt (fun h => h)), h.tidy⟩
theorem TI.put {w w' : World} {Bt bm n cnt : Nat} {D : DataW Value} {j : Int} {v : Value} (h : TI w Bt bm n cnt D) (hm : w'.ownsMap Yba.prog 22 hR bm (cnt + 1) (D.put (.int .u32 j) (.held v))) (hg : w.grownBy w' (some bm)) : TI w' Bt bm n (cnt + 1) (D.put (.int .u32 j) (.held v)) := by
  obtain ⟨ad, had⟩ := h.nodes
  have hK : Kept w w' (fun b => b = bm) := Kept.grown hg _ (fun b hb => (Option.some.inj hb).symm)
  exact ⟨⟨ad, (hK.cell ⟨Bt, 3, none⟩ h.ltb h.ne).trans had⟩, (hK.cell ⟨Bt, 8, none⟩ h.ltb h.ne).trans h.kept, hm, h.tidy.put (isKey _) _⟩

set_option maxRecDepth 100000 in
theorem new6 (w : World) (n : Nat) (hn : n ≤ 255) : Calls Yba.prog 6 #[.int .i64 (n : Int)] w fun e w' => ∃ Bt bm, e = .returned (.pointer (some ⟨Bt, 0, none⟩)) ∧ TI w' Bt bm n 0 (.map []) ∧ Kept w w' (fun _ => False) ∧ w.heap.size ≤ bm := by
  obtain ⟨i, hi, hzz⟩ := Option.map_eq_some_iff.1 info128
  simp only [Prod.mk.injEq, Option.isSome_iff_exists, decide_eq_true_eq] at hzz
  obtain ⟨⟨z, hz⟩, hb⟩ := hzz
  have hmk : ∀ x : World, (Instr.makeSlice 35 (.int .i64 (n : Int)) (.int .i64 (n : Int))).run Yba.prog x = .ok (.slice (some ⟨x.heap.size, 0, none⟩) n n) (x.alloc (.cells (madeCells z.cells (n * i.size)) 128)) := fun x => by
    have h1 : (i.bytes : Int) * (n : Int) ≤ 281474976710656 := by
      have : i.bytes * n ≤ 10000 * 255 := Nat.mul_le_mul hb hn
      have h2 : ((i.bytes * n : Nat) : Int) ≤ 281474976710656 := by omega
      rwa [Int.natCast_mul] at h2
    have := run_make (P := Yba.prog) x 35 128 i z Yba.underlying35 hi hz .i64 .i64 n n (by omega) (Int.le_refl _) h1 (by omega)
    simpa using this
  generalize madeCells z.cells (n * i.size) = mc at hmk
  clear hi hz hb
  have hmm : ∀ (x : World), (Instr.makeMap 37 none).run Yba.prog x = .ok (.map (some x.heap.size)) (x.alloc (.map #[] 0)) := fun x => by simp [Instr.makeMap]
  go_enter Yba.func6, Yba.ntmps6
  go_wp2
  go_ret
  refine ⟨w.heap.size + 1 + 1, w.heap.size + 1, rfl, ?_, ?_, by omega⟩
  · have h1 := World.ownsMap_made (H := Value) (w.alloc (.cells mc 128)) Yba.prog 22 hR
    have e1 : (w.alloc (.cells mc 128)).heap.size = w.heap.size + 1 := by simp
    rw [e1] at h1
    have h2 := fun o : Obj => heap_alloc_new ((w.alloc (.cells mc 128)).alloc (.map #[] 0)) o
    have e2 : ((w.alloc (.cells mc 128)).alloc (.map #[] 0)).heap.size = w.heap.size + 1 + 1 := by simp
    rw [e2] at h2
    exact TI.of (h2 _) rfl rfl (h1.alloc _) Maps.tidy_empty
  · exact ((Kept.alloc w _ _).trans (Kept.alloc _ _ (fun _ => False)) (fun _ _ h => h)).trans (Kept.alloc _ _ (fun _ => False)) (fun _ _ h => h)

/-- A new judging at block Bj: three rows of n nils. -/
structure JI (w : World) (Bj n : Nat) : Prop where
  all : ∃ g0 g1 g2, w.heap[Bj]? = some (.cells #[.slice (some ⟨g0, 0, none⟩) n n, .slice (some ⟨g1, 0, none⟩) n n, .slice (some ⟨g2, 0, none⟩) n n] 30 (0, 0)) ∧ g0 < w.heap.size ∧ g1 < w.heap.size ∧ g2 < w.heap.size ∧
    (∀ i, i < n → w.cell? ⟨g0, i, none⟩ = some (.map none)) ∧ (∀ i, i < n → w.cell? ⟨g1, i, none⟩ = some (.slice none 0 0)) ∧ ∀ i, i < n → w.cell? ⟨g2, i, none⟩ = some (.slice none 0 0)
theorem JI.lt {w : World} {Bj n : Nat} (h : JI w Bj n) : Bj < w.heap.size := by
  obtain ⟨g0, g1, g2, h, _⟩ := h.all
  exact lt_of_block h
theorem JI.kept {w w' : World} {Bj n bm : Nat} (h : JI w Bj n) (hK : Kept w w' (fun b => b = bm)) (hb : ∃ es cl, w.heap[bm]? = some (.map es cl)) : JI w' Bj n := by
  obtain ⟨g0, g1, g2, h, l0, l1, l2, c0, c1, c2⟩ := h.all
  obtain ⟨es, cl, hb⟩ := hb
  have cell : ∀ g (i : Nat) (v : Value), i < n → g < w.heap.size → w.cell? ⟨g, i, none⟩ = some v → w'.cell? ⟨g, i, none⟩ = some v := fun g i v hi hl hc =>
    (hK.cell ⟨g, i, none⟩ hl (fun e => by have e' : g = bm := e
                                          subst e'; simp [World.cell?, hb] at hc)).trans hc
  refine ⟨g0, g1, g2, (hK.block _ (lt_of_block h) (fun e => by subst e; rw [hb] at h; cases h)).trans h, Nat.lt_of_lt_of_le l0 hK.size, Nat.lt_of_lt_of_le l1 hK.size, Nat.lt_of_lt_of_le l2 hK.size, fun i hi => cell _ _ _ hi l0 (c0 i hi), fun i hi => cell _ _ _ hi l1 (c1 i hi), fun i hi => cell _ _ _ hi l2 (c2 i hi)⟩

theorem JI.drew {w : World} {Bj n : Nat} (h : JI w Bj n) : JI w.drew Bj n := ⟨h.all⟩

theorem made_cell (w : World) (z : Value) (e : TypeId) (n i : Nat) (hi : i < n) : (w.alloc (.cells (madeCells #[z] n) e)).cell? ⟨w.heap.size, i, none⟩ = some z := by
  simp only [World.cell?, heap_alloc_new]
  simp [madeCells, hi, Nat.mod_one]

/-- Three rows made, one behind the other. -/
theorem trio (w : World) (z0 z1 z2 : Value) (e0 e1 e2 : TypeId) (n : Nat) :
    (∀ i, i < n → (((w.alloc (.cells (madeCells #[z0] n) e0)).alloc (.cells (madeCells #[z1] n) e1)).alloc (.cells (madeCells #[z2] n) e2)).cell? ⟨w.heap.size, i, none⟩ = some z0) ∧
    (∀ i, i < n → (((w.alloc (.cells (madeCells #[z0] n) e0)).alloc (.cells (madeCells #[z1] n) e1)).alloc (.cells (madeCells #[z2] n) e2)).cell? ⟨w.heap.size + 1, i, none⟩ = some z1) ∧
    ∀ i, i < n → (((w.alloc (.cells (madeCells #[z0] n) e0)).alloc (.cells (madeCells #[z1] n) e1)).alloc (.cells (madeCells #[z2] n) e2)).cell? ⟨w.heap.size + 1 + 1, i, none⟩ = some z2 := by
  have s1 : (w.alloc (.cells (madeCells #[z0] n) e0)).heap.size = w.heap.size + 1 := by simp
  have s2 : ((w.alloc (.cells (madeCells #[z0] n) e0)).alloc (.cells (madeCells #[z1] n) e1)).heap.size = w.heap.size + 1 + 1 := by simp
  refine ⟨fun i hi => ?_, fun i hi => ?_, fun i hi => ?_⟩
  · rw [World.cell?_alloc_lt _ _ _ (by rw [s2]; show w.heap.size < _; omega), World.cell?_alloc_lt _ _ _ (by rw [s1]; show w.heap.size < _; omega)]
    exact made_cell w z0 e0 n i hi
  · rw [World.cell?_alloc_lt _ _ _ (by rw [s2]; show w.heap.size + 1 < _; omega)]
    have := made_cell (w.alloc (.cells (madeCells #[z0] n) e0)) z1 e1 n i hi
    rw [s1] at this; exact this
  · have := made_cell ((w.alloc (.cells (madeCells #[z0] n) e0)).alloc (.cells (madeCells #[z1] n) e1)) z2 e2 n i hi
    rw [s2] at this; exact this

/-- The box laid over three rows. -/
theorem JI.of {X : World} {g0 g1 g2 n B : Nat} (hB : X.heap.size = B) (l0 : g0 < B) (l1 : g1 < B) (l2 : g2 < B) (c0 : ∀ i, i < n → X.cell? ⟨g0, i, none⟩ = some (.map none)) (c1 : ∀ i, i < n → X.cell? ⟨g1, i, none⟩ = some (.slice none 0 0)) (c2 : ∀ i, i < n → X.cell? ⟨g2, i, none⟩ = some (.slice none 0 0)) :
    JI (X.alloc (.cells #[.slice (some ⟨g0, 0, none⟩) n n, .slice (some ⟨g1, 0, none⟩) n n, .slice (some ⟨g2, 0, none⟩) n n] 30)) B n := by
  subst hB
  refine ⟨g0, g1, g2, heap_alloc_new X _, by simp; omega, by simp; omega, by simp; omega, fun i hi => ?_, fun i hi => ?_, fun i hi => ?_⟩
  · rw [World.cell?_alloc_lt _ _ _ l0]; exact c0 i hi
  · rw [World.cell?_alloc_lt _ _ _ l1]; exact c1 i hi
  · rw [World.cell?_alloc_lt _ _ _ l2]; exact c2 i hi

set_option maxRecDepth 100000 in
theorem judging_old (w : World) (Bt bm n cnt : Nat) (D : DataW Value) (hT : TI w Bt bm n cnt D) (j : Int) (hj : (Lit.int .u32 j).wf = true) (a : Addr) (hv : D.atKey (.int .u32 j) (.held (.pointer none)) = .held (.pointer (some a))) :
    Calls Yba.prog 7 #[.pointer (some ⟨Bt, 0, none⟩), .int .u32 j] w fun e w' => e = .returned (.pointer (some a)) ∧ w' = w := by
  have hlk := look hT.map hj hv
  have c8 := hT.kept
  go_enter Yba.func7, Yba.ntmps7
  go_wp2
  go_ret
  exact ⟨rfl, rfl⟩

set_option maxRecDepth 100000 in
set_option maxHeartbeats 1000000 in
theorem judging_new (w : World) (Bt bm n cnt : Nat) (D : DataW Value) (hT : TI w Bt bm n cnt D) (hn : n ≤ 255) (hc : cnt ≤ 10) (j : Int) (hj : (Lit.int .u32 j).wf = true) (hv : D.atKey (.int .u32 j) (.held (.pointer none)) = .held (.pointer none)) :
    Calls Yba.prog 7 #[.pointer (some ⟨Bt, 0, none⟩), .int .u32 j] w fun e w' => ∃ Bj, e = .returned (.pointer (some ⟨Bj, 0, none⟩)) ∧ w.heap.size ≤ Bj ∧ JI w' Bj n ∧ TI w' Bt bm n (cnt + 1) (D.put (.int .u32 j) (.held (.pointer (some ⟨Bj, 0, none⟩)))) ∧ Kept w w' (fun b => b = bm) := by
  have hlk := look hT.map hj hv
  have c8 := hT.kept
  obtain ⟨ad, c3⟩ := hT.nodes
  have hm0 := run_make_row' (P := Yba.prog) 26 58 (.map none) 8 Yba.underlying26 info58 rfl .i64 .i64 n (by omega) (by omega)
  have hm1 := run_make_row' (P := Yba.prog) 27 59 (.slice none 0 0) 24 Yba.underlying27 info59 rfl .i64 .i64 n (by omega) (by omega)
  have hm2 := run_make_row' (P := Yba.prog) 28 60 (.slice none 0 0) 24 Yba.underlying28 info60 rfl .i64 .i64 n (by omega) (by omega)
  go_enter Yba.func7, Yba.ntmps7
  go_upto_region 4 with fail
  go_cut [5] (fun p wx => ∃ Bj, p = .pointer (some ⟨Bj, 0, none⟩) ∧ w.heap.size ≤ Bj ∧ JI wx Bj n ∧ Kept w wx (fun _ => False))
  case first =>
    go_region
    all_goals
      go_wp2_with fail
      go_meet
      case rel =>
        go_light
        have hk : ∀ o0 o1 o2 o3 : Obj, Kept w ((((w.alloc o0).alloc o1).alloc o2).alloc o3).drew (fun _ => False) := fun o0 o1 o2 o3 => ((((Kept.alloc w o0 (fun _ => False)).trans (Kept.alloc _ o1 (fun _ => False)) (fun _ _ h => h)).trans (Kept.alloc _ o2 (fun _ => False)) (fun _ _ h => h)).trans (Kept.alloc _ o3 (fun _ => False)) (fun _ _ h => h)).trans (Kept.drew _ (fun _ => False)) (fun _ _ h => h)
        refine ⟨w.heap.size + 1 + 1 + 1, rfl, by omega, ?_, hk _ _ _ _⟩
        first
          | exact (JI.of (by simp) (by omega) (by omega) (by omega) (trio w _ _ _ _ _ _ n).1 (trio w _ _ _ _ _ _ n).2.1 (trio w _ _ _ _ _ _ n).2.2).drew
          | exact (JI.of (by simp) (by omega) (by omega) (by omega) (trio w _ _ _ _ _ _ n).1 (trio w _ _ _ _ _ _ n).2.2 (trio w _ _ _ _ _ _ n).2.1).drew
          | exact (JI.of (by simp) (by omega) (by omega) (by omega) (trio w _ _ _ _ _ _ n).2.1 (trio w _ _ _ _ _ _ n).1 (trio w _ _ _ _ _ _ n).2.2).drew
          | exact (JI.of (by simp) (by omega) (by omega) (by omega) (trio w _ _ _ _ _ _ n).2.1 (trio w _ _ _ _ _ _ n).2.2 (trio w _ _ _ _ _ _ n).1).drew
          | exact (JI.of (by simp) (by omega) (by omega) (by omega) (trio w _ _ _ _ _ _ n).2.2 (trio w _ _ _ _ _ _ n).1 (trio w _ _ _ _ _ _ n).2.1).drew
          | exact (JI.of (by simp) (by omega) (by omega) (by omega) (trio w _ _ _ _ _ _ n).2.2 (trio w _ _ _ _ _ _ n).2.1 (trio w _ _ _ _ _ _ n).1).drew
  case rest =>
    obtain ⟨Bj, rfl, hBj, hJ, hK⟩ := hcut
    have hT1 := hT.next hK
    have d8 := hT1.kept
    clear hm0 hm1 hm2 hlk c8 c3
    obtain ⟨w2, hrun, hown2, hg2⟩ := hT1.map.update (Maps.int_keyed Yba.underlying22) Yba.underlying37 (by unfold maxLen; omega) (key_u32 hj) (show hR (.pointer (some ⟨Bj, 0, none⟩)) = some (.held (.pointer (some ⟨Bj, 0, none⟩)), []) from rfl)
    go_wp2
    go_ret
    have hK2 : Kept wc w2 (fun b => b = bm) := Kept.grown hg2 _ (fun b hb => (Option.some.inj hb).symm)
    exact ⟨Bj, rfl, hBj, hJ.kept hK2 (map_is hT1.map), hT1.put hown2 hg2, (hK.weak (fun _ _ h => h.elim)).trans hK2 (fun _ _ h => h)⟩

end Go.Proofs.Ybulkcgqq
