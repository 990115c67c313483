/-
  LawS4137AFresh: the row.
-/
import Derived.Test.YbulkcgqqFresh
namespace Go.Proofs.Ybulkcgqq.lawS4137AFresh
open Go.ChangeShapes Go.WideShapes Go.ChangeAt Go.RowKit

theorem own : ownKnob Yba.prog.godebug = none := by kernel_rfl

set_option maxRecDepth 100000 in
theorem lifted (os : Os) (started : os.Started) (H : Type) (enc : TypeId × Value → H) :
    ReturnsInHanded {} Yba.checked os 3 .any (Rows.lawS4137AFreshSpec.pre6 enc Yba.prog Yba.f3 Rows.lawS4137AFreshRow.domain false) (Rows.lawS4137AFreshSpec.post enc Yba.prog Yba.f3 false true false false) := by
  refine returnsInHanded_of_change (C := Yba.checked) own started (by kernel_rfl) Yba.func3
    (ChangeSpec.witness6 (enc := enc) (C := Yba.checked) false ⟨#[], #[.int .u8 0, .int .u32 0, .int .u32 0, .bool false], []⟩ 8 (by kernel_rfl) (by kernel_rfl) (by kernel_rfl) (by kernel_rfl)) ?_
  intro W base args ds gs before hval0 hW _ _
  have hval : ∀ (j : Nat) t v, Yba.f3.params[j]? = some t → args[j]? = some v → Value.okWide Yba.prog W .any base t v := hval0
  have hW' := hW
  obtain ⟨p, q, hA0, hV, rfl, _, _⟩ := hW
  have hA : DataW.TrodAll enc Yba.prog W 0 (fun _ => true) true Yba.f3.params.toList args.toList ds p := hA0
  rw [Yba.params3] at hA hval
  obtain ⟨v0, v1, v2, v3, d0, d1, d2, d3, p0, p1, p2, p3, rfl, rfl, rfl, h0, h1, h2, h3⟩ := trodAll_four hA
  obtain ⟨rfl, rfl⟩ := trodVars_none hV
  obtain ⟨z, rfl, rfl, rfl, wz⟩ := open_int Yba.underlying5 (hval 0 5 v0 rfl rfl) h0
  obtain ⟨a, rfl, rfl, rfl, wa⟩ := open_int Yba.underlying22 (hval 1 22 v1 rfl rfl) h1
  obtain ⟨b, rfl, rfl, rfl, wb⟩ := open_int Yba.underlying22 (hval 2 22 v2 rfl rfl) h2
  obtain ⟨c, rfl, rfl, rfl⟩ := open_bool Yba.underlying4 (hval 3 4 v3 rfl rfl) h3
  clear hA0 hval0
  have hzb : 0 ≤ z ∧ z ≤ 255 := by
    have b1 : IntKind.u8.min = 0 := rfl
    have b2 : IntKind.u8.max = 255 := rfl
    simpa [Lit.wf, b1, b2] using wz
  have hzn : z = (z.toNat : Int) := by omega
  have hw : Calls Yba.prog 3 #[.int .u8 z, .int .u32 a, .int .u32 b, .bool c] W fun e w' => e = .returned (.bool true) ∧ Below W.heap.size W w' := by
    rw [hzn]
    cases c with
    | false => exact fresh_not W z.toNat (by omega) a b wa
    | true =>
      by_cases hab : b = a
      · subst hab; exact fresh_same W z.toNat (by omega) b wb
      · exact fresh_other W z.toNat (by omega) a b wa wb hab
  refine hw.mono fun e W' ⟨he, bel⟩ => ?_
  subst he
  refine ⟨_, rfl, _, _, _, [], [] ++ ([] ++ ([] ++ [])), [], hW', trodAll_mk1 (shut_bool Yba.underlying4 _), trodAll_mk4 (shut_int Yba.underlying5 wz) (shut_int Yba.underlying22 wa) (shut_int Yba.underlying22 wb) (shut_bool Yba.underlying4 _), rfl, bel.frame _, fun h => by cases h⟩

theorem proved : Rows.LawS4137AFreshSaid :=
  OpenClaim.holds_of_wide 3 Yba.f3 rfl rfl rfl rfl rfl rfl rfl ⟨rfl, rfl, rfl, rfl, rfl⟩ rfl rfl rfl rfl rfl (by kernel_rfl) Yba.func3 (by kernel_rfl)
    (of_decide_eq_true (by kernel_rfl)) (by unfold Func.isWrapper; first | (rw [if_pos (by decide +kernel)]; kernel_rfl) | (rw [if_neg (by decide +kernel)]; exact ⟨rfl, rfl⟩))
    (fun os started H enc _ => lifted os started H enc)

#print axioms proved
end Go.Proofs.Ybulkcgqq.lawS4137AFresh
