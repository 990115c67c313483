/-
  LawS4137BExact: the row.
-/
import Derived.Test.YbulkcgqqExact
import Derived.Deep.OwnRows
import Derived.ProofKit
import Derived.OpenShut
import Derived.ChangeOld
import Derived.WalkLawsBesides
namespace Go.Proofs.Ybulkcgqq.lawS4137BExact
open Go.ChangeShapes Go.WideShapes Go.ChangeAt Go.RowKit

theorem own : ownKnob Yba.prog.godebug = none := by kernel_rfl
theorem laidOut : laidOutB Yba.prog = true := by kernel_rfl
theorem cells63 : Yba.prog.cellsOf 63 = 16 := by kernel_rfl
theorem cells41 : Yba.prog.cellsOf 41 = 1 := by kernel_rfl

/-- The number in a value. -/
def intOf : Value → Int
  | .int _ n => n
  | _ => 0

theorem agg16 (cs : Array Value) (hs : cs.size = 16) (hc : ∀ i, i < 16 → ∃ n, cs[i]? = some (.int .u64 n)) : cs = cells16 (fun i => intOf (cs.getD i undef)) := by
  refine Array.ext_getElem? fun i => ?_
  by_cases hi : i < 16
  · rw [cells16_get _ i hi]
    obtain ⟨n, hn⟩ := hc i hi
    rw [hn]
    simp [Array.getD_eq_getD_getElem?, hn, intOf]
  · rw [Array.getElem?_eq_none (by omega), Array.getElem?_eq_none (by simp [cells16]; omega)]

set_option maxRecDepth 100000 in
theorem lifted (os : Os) (started : os.Started) (H : Type) (enc : TypeId × Value → H) :
    ReturnsInHanded {} Yba.checked os 5 .any (Rows.lawS4137BExactSpec.pre6 enc Yba.prog Yba.f5 Rows.lawS4137BExactRow.domain false) (Rows.lawS4137BExactSpec.post enc Yba.prog Yba.f5 false true false false) := by
  refine returnsInHanded_of_change (C := Yba.checked) own started (by kernel_rfl) Yba.func5
    (ChangeSpec.witness6 (enc := enc) (C := Yba.checked) false ⟨#[], #[.agg (cells16 fun _ => 0), .int .u32 0, .int .u8 0], []⟩ 8 (by kernel_rfl) (by kernel_rfl) (by kernel_rfl) (by kernel_rfl)) ?_
  intro W base args ds gs before hval0 hW _ _
  have hval : ∀ (j : Nat) t v, Yba.f5.params[j]? = some t → args[j]? = some v → Value.okWide Yba.prog W .any base t v := hval0
  have hW' := hW
  obtain ⟨p, q, hA0, hV, rfl, _, _⟩ := hW
  have hA : DataW.TrodAll enc Yba.prog W 0 (fun _ => true) true Yba.f5.params.toList args.toList ds p := hA0
  rw [Yba.params5] at hA hval
  obtain ⟨v0, v1, v2, d0, d1, d2, p0, p1, p2, rfl, rfl, rfl, h0, h1, h2⟩ := trodAll_three hA
  obtain ⟨rfl, rfl⟩ := trodVars_none hV
  obtain ⟨ju, rfl, rfl, rfl, wju⟩ := open_int Yba.underlying22 (hval 1 22 v1 rfl rfl) h1
  obtain ⟨z, rfl, rfl, rfl, wz⟩ := open_int Yba.underlying5 (hval 2 5 v2 rfl rfl) h2
  have hok := hval 0 63 v0 rfl rfl
  simp only [Value.okWide, Yba.underlying63, cells63] at hok
  obtain ⟨cs, rfl, hcs, _⟩ := hok
  have k0 := h0
  have lt0 : ∀ x ∈ p0, x.block < W.heap.size := by obtain ⟨m, hm⟩ := k0; exact DataW.trod_lt m _ _ _ hm
  clear hA0 hval0
  have hzb : 0 ≤ z ∧ z ≤ 255 := by
    have b1 : IntKind.u8.min = 0 := rfl
    have b2 : IntKind.u8.max = 255 := rfl
    simpa [Lit.wf, b1, b2] using wz
  have hcell : ∀ i, i < 16 → ∃ n, cs[i]? = some (.int .u64 n) := fun i hi => by
    obtain ⟨fuel, hf⟩ := h0
    obtain ⟨xs, m, _, _, _, hxl, hx⟩ := DataW.trod_array Yba.underlying63 hf
    have h3 := hx i hi
    rw [cells41, Nat.mul_one] at h3
    have hxi : xs[i]? = some xs[i] := List.getElem?_eq_getElem (by omega)
    rw [hxi] at h3
    obtain ⟨n, hn, _⟩ := DataW.trod_int Yba.underlying41 h3
    refine ⟨n, ?_⟩
    have h4 := congrArg List.head? hn
    simp [Value.cells, List.head?_take, List.head?_drop] at h4
    exact h4
  have hag := agg16 cs hcs hcell
  have hzn : z = (z.toNat : Int) := by omega
  have hw := walk W (fun i => intOf (cs.getD i undef)) ju z.toNat (by omega)
  rw [← hzn] at hw
  have hw2 : Calls Yba.prog 5 #[.agg cs, .int .u32 ju, .int .u8 z] W fun e w' => e = .returned (.bool true) ∧ Below W.heap.size W w' := by
    rw [hag]; exact hw
  refine hw2.mono fun e W' ⟨he, bel⟩ => ?_
  subst he
  refine ⟨_, rfl, _, _, _, [], p0 ++ ([] ++ []), [], hW', trodAll_mk1 (shut_bool Yba.underlying4 _), trodAll_mk3 (Below.trod laidOut (by kernel_rfl) (of_decide_eq_true (by kernel_rfl)) k0 bel lt0) (shut_int Yba.underlying22 wju) (shut_int Yba.underlying5 wz), rfl, bel.frame _, fun h => by cases h⟩

theorem proved : Rows.LawS4137BExactSaid :=
  OpenClaim.holds_of_wide 5 Yba.f5 rfl rfl rfl rfl rfl rfl rfl ⟨rfl, rfl, rfl, rfl, rfl⟩ rfl rfl rfl rfl rfl (by kernel_rfl) Yba.func5 (by kernel_rfl)
    (of_decide_eq_true (by kernel_rfl)) (by unfold Func.isWrapper; first | (rw [if_pos (by decide +kernel)]; kernel_rfl) | (rw [if_neg (by decide +kernel)]; exact ⟨rfl, rfl⟩))
    (fun os started H enc _ => lifted os started H enc)

#print axioms proved
end Go.Proofs.Ybulkcgqq.lawS4137BExact
