/-
  LawS4140ALastWins: the row.
-/
import Derived.Test.YbulkcgsgLast
import Derived.Deep.OwnRows
import Derived.Deep.SlicePairs
import Derived.ProofKit
import Derived.OpenShut
import Derived.ChangeOld
import Derived.ChangeArms
import Derived.ChangeMaps5
import Derived.WalkLawsBesides
namespace Go.Proofs.Ybulkcgsg.lawS4140ALastWins
open Go.ChangeShapes Go.WideShapes Go.ChangeAt Go.RowKit

theorem own : ownKnob Yba.prog.godebug = none := by kernel_rfl
theorem laidOut : laidOutB Yba.prog = true := by kernel_rfl

/-- The number, the string in a value. -/
def intOf : Value → Nat
  | .int _ n => n.toNat
  | _ => 0
def strOf : Value → ByteArray
  | .string s => s
  | _ => ⟨#[]⟩

set_option maxRecDepth 100000 in
theorem lifted (os : Os) (started : os.Started) (H : Type) (enc : TypeId × Value → H) :
    ReturnsInHanded {} Yba.checked os 3 .any (Rows.lawS4140ALastWinsSpec.pre6 enc Yba.prog Yba.f3 Rows.lawS4140ALastWinsRow.domain false) (Rows.lawS4140ALastWinsSpec.post enc Yba.prog Yba.f3 false true false false) := by
  refine returnsInHanded_of_change (C := Yba.checked) own started (by kernel_rfl) Yba.func3
    (ChangeSpec.witness6 (enc := enc) (C := Yba.checked) false ⟨#[], #[.slice none 0 0], []⟩ 8 (by kernel_rfl) (by kernel_rfl) (by kernel_rfl) (by kernel_rfl)) ?_
  intro W base args ds gs before hval0 hW _ _
  have hval : ∀ (j : Nat) t v, Yba.f3.params[j]? = some t → args[j]? = some v → Value.okWide Yba.prog W .any base t v := hval0
  have hW' := hW
  obtain ⟨p, q, hA0, hV, rfl, _, _⟩ := hW
  have hA : DataW.TrodAll enc Yba.prog W 0 (fun _ => true) true Yba.f3.params.toList args.toList ds p := hA0
  rw [Yba.params3] at hA hval
  obtain ⟨v0, d0, rfl, rfl, h0⟩ := trodAll_one hA
  obtain ⟨rfl, rfl⟩ := trodVars_none hV
  obtain ⟨a1, le, c1, rfl⟩ := okWide_slice Yba.underlying22 (hval 0 22 v0 rfl rfl)
  have k0 := h0
  have lt0 : ∀ x ∈ p, x.block < W.heap.size := by obtain ⟨m, hm⟩ := k0; exact DataW.trod_lt m _ _ _ hm
  clear hA0 hval0
  simp only [List.append_nil] at hW'
  have b1 : IntKind.u8.min = 0 := rfl
  have b2 : IntKind.u8.max = 255 := rfl
  have hw : Calls Yba.prog 3 #[.slice a1 le c1] W fun e w' => e = .returned (.bool true) ∧ Below W.heap.size W w' := by
    obtain ⟨fuel, hf⟩ := h0
    rcases Deep.open_slice_pairs Yba.underlying22 Yba.underlying31 (by kernel_rfl) rfl rfl (by kernel_rfl) (by kernel_rfl) hf with ⟨hcs, _⟩ | ⟨a, l, c, m, n, V0, V1, D0, D1, P0, P1, hcs, _, hl, hm, hmm, _, hx⟩
    · simp [Value.cells] at hcs
      obtain ⟨rfl, rfl, rfl⟩ := hcs
      exact last_walk W none 0 0 (fun _ => 0) (fun _ => ⟨#[]⟩) (Nat.zero_le _) (fun i hi => absurd hi (Nat.not_lt_zero _)) (fun i hi => absurd hi (Nat.not_lt_zero _))
    · simp [Value.cells] at hcs
      obtain ⟨rfl, rfl, rfl⟩ := hcs
      simp only [if_true] at hmm
      have each : ∀ i, i < le → ∃ (y : Nat) (s : ByteArray), y ≤ 255 ∧ V0 i = .int .u8 (y : Int) ∧ V1 i = .string s := fun i hi => by
        obtain ⟨_, _, t0, t1⟩ := hx i (by omega)
        obtain ⟨y, e0, _, w0⟩ := DataW.trod_int Yba.underlying5 t0
        obtain ⟨s, e1, _⟩ := DataW.trod_string Yba.underlying9 t1
        have u0 : 0 ≤ y ∧ y ≤ 255 := by simpa [Lit.wf, b1, b2] using w0
        refine ⟨y.toNat, s, by omega, ?_, (List.cons.inj e1).1⟩
        rw [(List.cons.inj e0).1]; congr 1; omega
      obtain ⟨b, off, spot⟩ := a
      refine last_walk W _ le c1 (fun i => intOf (V0 i)) (fun i => strOf (V1 i)) (by omega) (fun i hi => ?_) (fun i hi => ?_)
      · obtain ⟨q0, q1, _, _⟩ := hx i (by omega)
        have hspot : spot = none := by simpa [Addr.add] using World.cell?_spot (hx 0 (by omega)).1
        subst hspot
        obtain ⟨y, s, _, e0, e1⟩ := each i hi
        refine ⟨b, off, rfl, ?_, ?_⟩
        · rw [add_plain] at q0
          rw [q0]; simp [intOf, e0]
        · rw [add_plain] at q1
          rw [Nat.add_assoc, q1]; simp [strOf, e1]
      · obtain ⟨y, s, hy, e0, e1⟩ := each i hi
        simp only [e0, intOf]; omega
  refine hw.mono fun e W' ⟨he, bel⟩ => ?_
  subst he
  exact ⟨_, rfl, _, _, _, [], _, [], hW', trodAll_mk1 (shut_bool Yba.underlying4 _), (trodAll_mk1 (Below.trod laidOut (by kernel_rfl) (of_decide_eq_true (by kernel_rfl)) k0 bel lt0)), rfl, bel.frame _, fun h => by cases h⟩

theorem proved : Rows.LawS4140ALastWinsSaid :=
  OpenClaim.holds_of_wide 3 Yba.f3 rfl rfl rfl rfl rfl rfl rfl ⟨rfl, rfl, rfl, rfl, rfl⟩ rfl rfl rfl rfl rfl (by kernel_rfl) Yba.func3 (by kernel_rfl)
    (of_decide_eq_true (by kernel_rfl)) (by unfold Func.isWrapper; first | (rw [if_pos (by decide +kernel)]; kernel_rfl) | (rw [if_neg (by decide +kernel)]; exact ⟨rfl, rfl⟩))
    (fun os started H enc _ => lifted os started H enc)

#print axioms proved
end Go.Proofs.Ybulkcgsg.lawS4140ALastWins
