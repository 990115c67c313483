/-
  LawS4133BRoundTrip: the told row and its tied card.
-/
import Derived.Test.YbulkcgomFmtLaw
import Derived.Test.YbulkcgomFmtCards
import Derived.Test.YbulkcgomFmtTie
import Derived.Deep.OwnRows
import Derived.Deep.SlicePairs
import Derived.ProofKit
import Derived.OpenShut
import Derived.ChangeOld
import Derived.ChangeArms
import Derived.ChangeVars
import Derived.RowKitTokens
import Derived.WalkLawsBesides
import Derived.Stop.JoinedAt
import Derived.Stop.Texts
import Derived.Stop.JoinedTold
import Derived.Stop.LaidErr
import Derived.Deep.DeepWitnessRef
import Derived.SevenTiedAt
namespace Go.Proofs.YbulkcgomFmt.lawS4133BRoundTrip
open Go.ChangeShapes Go.WideShapes Go.ChangeAt Go.RowKit Go.Kit
open Go.Extern.Stop Go.Stop Go.Extern

theorem own : ownKnob Ybaf.prog.godebug = none := by kernel_rfl
theorem laidOut : laidOutB Ybaf.prog = true := by kernel_rfl
theorem stops : Ybaf.pinned.checked.prog.stops = ["fmt.errorf"] := by kernel_rfl
theorem stopKnobs : Ybaf.pinned.checked.prog.stopKnobs = [] := by kernel_rfl
theorem quiet (os : Os) : Stop.quiet Ybaf.pinned.checked.prog os := by
  intro k hk
  rw [stopKnobs] at hk
  cases hk
theorem gEType : (Ybaf.prog.globals[0]?).map (·.type) = some 27 := by kernel_rfl
theorem cells74 : Ybaf.prog.cellsOf 74 = 1 := by kernel_rfl
theorem cells9 : Ybaf.prog.cellsOf 9 = 1 := by kernel_rfl
/-! ### One start that fits -/
abbrev cutS : ByteArray := { data := #[99, 108, 111, 99, 107, 58, 32, 119, 105, 114, 101, 32, 102, 111, 114, 109, 32, 99, 117, 116, 32, 115, 104, 111, 114, 116, 32, 111, 114, 32, 111, 117, 116, 32, 111, 102, 32, 114, 97, 110, 103, 101] }
set_option maxRecDepth 1000000 in
theorem start (os : Os) {H : Type} (enc : TypeId × Value → H) (F : Stop.Interp) : ∃ (w : World) (tape : Tape) (i : Input), w.os = os ∧ (w.forCall tape i).Shaped Ybaf.checked.prog ∧ i.vars = [] ∧ Input.okWide Ybaf.checked.prog (w.forCall tape i) .any w.heap.size 3 i ∧
      (OpenSpec.ofChange Rows.lawS4133BRoundTripSpec).preRow enc Ybaf.checked.prog Ybaf.f3 Rows.lawS4133BRoundTripRow.domain false Rows.lawS4133BRoundTripRow.laid (w.forCall tape i).memory i.args ∧ ({} : Assume).holds Ybaf.checked.prog (lone (Frame.enter Ybaf.checked.prog 3 i.args .normal) [] (w.forCall tape i)) ∧ F.answers tape := by
  refine OpenSpec.witness_stopped_atRef (enc := enc) (C := Ybaf.checked) false
    (let w0 := World.holding Ybaf.prog os ⟨#[.cells #[.string cutS] 74], #[], []⟩
     { w0 with heap := w0.heap.modify 0 fun
        | .cells _ t frozen => .cells #[.iface 72 (.pointer (some ⟨(World.holding Ybaf.prog default ⟨#[], #[], []⟩).heap.size, 0, none⟩))] t frozen
        | o => o })
    #[.int .u8 0, .slice none 0 0, .slice none 0 0] rfl (by kernel_rfl) (by kernel_rfl) (by kernel_rfl) ?_ F
  exact OpenSpec.preRow_of_B (laid := Rows.lawS4133BRoundTripRow.laid) rfl 8 (by kernel_rfl) (by kernel_rfl) (show laidMet Ybaf.prog Rows.lawS4133BRoundTripRow.laid _ from laidMet_of_run (ps := [.cell 0 0, .cell (World.holding Ybaf.prog default ⟨#[], #[], []⟩).heap.size 0]) 8 (by kernel_rfl) (by kernel_rfl) (by kernel_rfl))

theorem var_below {w w' : World} {n : String} {g B : Nat} {cs : Array Value} (h : w.var? Ybaf.prog n = some cs) (hg : Ybaf.prog.globalNamed n = some g) (hb : Below B w w') (hlt : g < B) : w'.var? Ybaf.prog n = some cs := by
  unfold World.var? at h ⊢
  rw [hg] at h ⊢
  simp only [Option.bind_some] at h ⊢
  rw [hb.block g hlt]
  exact h

/-- The number in a value. -/
def intOf : Value → Nat
  | .int _ n => n.toNat
  | _ => 0

theorem wf_bounds {k : IntKind} {n : Int} (h : (Lit.int k n).wf = true) : k.min ≤ n ∧ n ≤ k.max := by simpa [Lit.wf] using h

set_option maxRecDepth 100000 in
theorem lifted (os : Os) (started : os.Started) (H : Type) (enc : TypeId × Value → H) :
    ReturnsInTold none {} Ybaf.checked os 3 .any Input.okWide ((OpenSpec.ofChange Rows.lawS4133BRoundTripSpec).preRow enc Ybaf.prog Ybaf.f3 Rows.lawS4133BRoundTripRow.domain false Rows.lawS4133BRoundTripRow.laid) (fun F => ((OpenSpec.ofChange Rows.lawS4133BRoundTripSpec).at F).post enc Ybaf.prog Ybaf.f3 false Rows.lawS4133BRoundTripRow.fresh Rows.lawS4133BRoundTripRow.handsOn Rows.lawS4133BRoundTripRow.again) (aloneAtReturn Ybaf.prog) nothingAlways := by
  refine returnsInTold_of_row (C := Ybaf.checked) (s := OpenSpec.ofChange Rows.lawS4133BRoundTripSpec) (by kernel_rfl) own started (by kernel_rfl) Ybaf.func3
    (start os enc) ?_
  intro F W base args ds gs before _ hF hval0 hW _ _ _ hL _
  have hval : ∀ (j : Nat) t v, Ybaf.f3.params[j]? = some t → args[j]? = some v → Value.okWide Ybaf.prog W .any base t v := hval0
  have hW' := hW
  obtain ⟨p, q, hA0, hV0, rfl, _, _⟩ := hW
  have hA : DataW.TrodAll enc Ybaf.prog W 0 (fun _ => true) true Ybaf.f3.params.toList args.toList ds p := hA0
  have hV : DataW.TrodVars enc Ybaf.prog W (fun _ => true) Rows.lawS4133BRoundTripSpec.vars gs q := hV0
  rw [Ybaf.params3] at hA hval
  obtain ⟨v0, v1, v2, d0, d1, d2, p0, p1, p2, rfl, rfl, rfl, h0, h1, h2⟩ := trodAll_three hA
  obtain ⟨z, rfl, rfl, rfl, wz⟩ := open_int Ybaf.underlying5 (hval 0 5 v0 rfl rfl) h0
  obtain ⟨a1, le, c1, rfl⟩ := okWide_slice Ybaf.underlying22 (hval 1 22 v1 rfl rfl)
  obtain ⟨a2, lb, c2, rfl⟩ := okWide_slice Ybaf.underlying23 (hval 2 23 v2 rfl rfl)
  obtain ⟨a0, s0, hv0, hc0, hs0, hz0⟩ := laid_sentinel (g := 0) hL (by kernel_rfl) gEType Ybaf.underlying27 (fun u h => typeName_ptr_named (nm := "errors.errorString") (tp := 72) (by kernel_rfl) (by kernel_rfl) (by decide) u (h.trans (congrArg some (by decide)))) Ybaf.underlying72 Ybaf.underlying74 rfl rfl Ybaf.underlying9 cells74 cells9
  obtain ⟨rfl, rfl⟩ := hV.unique (vars_read1 (g := 0) enc (by kernel_rfl) gEType Ybaf.underlying27 hv0 trivial _)
  clear hA0 hV0 hval0
  have k1 := h1
  have k2 := h2
  have lt1 : ∀ x ∈ p1, x.block < W.heap.size := by obtain ⟨m, hm⟩ := k1; exact DataW.trod_lt m _ _ _ hm
  have lt2 : ∀ x ∈ p2, x.block < W.heap.size := by obtain ⟨m, hm⟩ := k2; exact DataW.trod_lt m _ _ _ hm
  have hzb := wf_bounds wz
  have b1 : IntKind.u8.min = 0 := rfl
  have b2 : IntKind.u8.max = 255 := rfl
  have b3 : IntKind.u64.min = 0 := rfl
  have b4 : IntKind.u64.max = 18446744073709551615 := rfl
  rw [b1, b2] at hzb
  have hents : ∃ ys xs : Nat → Nat, le ≤ maxLen ∧ (∀ i, i < le → ∃ b off, a1 = some ⟨b, off, none⟩ ∧ W.cell? ⟨b, off + i * 2, none⟩ = some (.int .u8 (ys i : Int)) ∧ W.cell? ⟨b, off + i * 2 + 1, none⟩ = some (.int .u64 (xs i : Int))) ∧ (∀ i, i < le → ys i ≤ 255 ∧ xs i < 18446744073709551616) := by
    obtain ⟨fuel, hf⟩ := h1
    rcases Deep.open_slice_pairs Ybaf.underlying22 Ybaf.underlying36 (by kernel_rfl) rfl rfl (by kernel_rfl) (by kernel_rfl) hf with ⟨hcs, _⟩ | ⟨a, l, c, m, n, V0, V1, D0, D1, P0, P1, hcs, _, hl, hm, hmm, _, hx⟩
    · simp [Value.cells] at hcs
      obtain ⟨rfl, rfl, rfl⟩ := hcs
      exact ⟨fun _ => 0, fun _ => 0, Nat.zero_le _, fun i hi => absurd hi (Nat.not_lt_zero _), fun i hi => absurd hi (Nat.not_lt_zero _)⟩
    · simp [Value.cells] at hcs
      obtain ⟨rfl, rfl, rfl⟩ := hcs
      simp only [if_true] at hmm
      have each : ∀ i, i < le → ∃ y x : Nat, y ≤ 255 ∧ x < 18446744073709551616 ∧ V0 i = .int .u8 (y : Int) ∧ V1 i = .int .u64 (x : Int) := fun i hi => by
        obtain ⟨_, _, t0, t1⟩ := hx i (by omega)
        obtain ⟨y, e0, _, w0⟩ := DataW.trod_int Ybaf.underlying5 t0
        obtain ⟨x, e1, _, w1⟩ := DataW.trod_int Ybaf.underlying31 t1
        have u0 := wf_bounds w0
        have u1 := wf_bounds w1
        rw [b1, b2] at u0
        rw [b3, b4] at u1
        refine ⟨y.toNat, x.toNat, by omega, by omega, ?_, ?_⟩
        · rw [(List.cons.inj e0).1]; congr 1; omega
        · rw [(List.cons.inj e1).1]; congr 1; omega
      obtain ⟨b, off, spot⟩ := a
      refine ⟨fun i => intOf (V0 i), fun i => intOf (V1 i), by omega, fun i hi => ?_, fun i hi => ?_⟩
      · obtain ⟨q0, q1, _, _⟩ := hx i (by omega)
        have hspot : spot = none := by simpa [Addr.add] using World.cell?_spot (hx 0 (by omega)).1
        subst hspot
        obtain ⟨y, x, _, _, e0, e1⟩ := each i hi
        refine ⟨b, off, rfl, ?_, ?_⟩
        · rw [add_plain] at q0
          rw [q0]; simp [intOf, e0]
        · rw [add_plain] at q1
          rw [Nat.add_assoc, q1]; simp [intOf, e1]
      · obtain ⟨y, x, hy, hx, e0, e1⟩ := each i hi
        simp only [e0, e1, intOf]; omega
  have hbytes : ∃ bs : List UInt8, lb ≤ maxLen ∧ bs.length = lb ∧ ((lb = 0 ∧ ((a2 = none ∧ c2 = 0) ∨ ∃ ad, a2 = some ad)) ∨ ∃ b off, a2 = some ⟨b, off, none⟩ ∧ Lies W b off bs ∧ b < W.heap.size) := by
    obtain ⟨fuel, hf⟩ := h2
    rcases open_ints Ybaf.underlying23 Ybaf.underlying5 (by kernel_rfl) hf with ⟨hcs, _⟩ | ⟨x, l, c, zs, hcs, _, hl, hm, hz, hpl, hcell, hwz⟩
    · simp [Value.cells] at hcs
      obtain ⟨rfl, rfl, rfl⟩ := hcs
      exact ⟨[], Nat.zero_le _, rfl, .inl ⟨rfl, .inl ⟨rfl, rfl⟩⟩⟩
    · simp [Value.cells] at hcs
      obtain ⟨rfl, rfl, rfl⟩ := hcs
      simp only [if_true] at hz
      have hzb : ∀ i, i < lb → ∃ k : Nat, k ≤ 255 ∧ zs.getD i 0 = (k : Int) := fun i hi => by
        have hi' : i < zs.length := by omega
        have hm' : zs.getD i 0 ∈ zs := by simp [hi']
        have u0 := wf_bounds (hwz _ hm')
        rw [b1, b2] at u0
        exact ⟨(zs.getD i 0).toNat, by omega, by omega⟩
      refine ⟨(List.range lb).map fun i => UInt8.ofNat (zs.getD i 0).toNat, by omega, by simp, ?_⟩
      obtain ⟨b, off, spot⟩ := x
      by_cases h0 : lb = 0
      · exact .inl ⟨h0, .inr ⟨_, rfl⟩⟩
      · right
        have hc0' := hcell 0 (by omega)
        have hspot : spot = none := by simpa [Addr.add] using World.cell?_spot hc0'
        subst hspot
        refine ⟨b, off, rfl, fun j hj => ?_, ?_⟩
        · have hj' : j < lb := by simpa using hj
          have h3 := hcell j (by omega)
          obtain ⟨k, hk, he⟩ := hzb j hj'
          rw [add_plain, he] at h3
          rw [h3]
          have e3 : zs.getD j 0 = (k : Int) := he
          simp only [List.getElem_map, List.getElem_range, e3]
          simp; omega
        · rw [add_plain] at hc0'
          exact World.block_lt_of_cell? _ _ hc0'
  obtain ⟨ys, xs, hle, he, hy⟩ := hents
  obtain ⟨bs, hlb, hbl, hb⟩ := hbytes
  have hzn : z = (z.toNat : Int) := by omega
  have hw := walk F.told W hF z.toNat (by omega) a1 le c1 ys xs hle he hy a2 lb c2 bs hlb hbl hb
  rw [← hzn] at hw
  refine hw.mono fun e W' ⟨hre, bel⟩ => ?_
  subst hre
  have hlt : 0 < W.heap.size := by
    have hg0 : W.cell? ⟨0, 0, none⟩ = some (.iface 72 (.pointer (some a0))) := by simpa using World.var?_cell (g := 0) (by kernel_rfl) hv0 0
    exact World.block_lt_of_cell? _ _ hg0
  refine ⟨_, rfl, _, _, _, [], [] ++ (p1 ++ p2), [.cell 0 0], hW', ?_, ?_, ?_, bel.frame _, fun h => by cases h⟩
  · exact trodAll_mk1 (shut_bool Ybaf.underlying4 _)
  · exact trodAll_mk3 (shut_int Ybaf.underlying5 wz) (Below.trod laidOut (by kernel_rfl) (of_decide_eq_true (by kernel_rfl)) k1 bel lt1) (Below.trod laidOut (by kernel_rfl) (of_decide_eq_true (by kernel_rfl)) k2 bel lt2)
  · exact vars_read1 (g := 0) enc (by kernel_rfl) gEType Ybaf.underlying27 (var_below (g := 0) hv0 (by kernel_rfl) bel hlt) trivial _

theorem proved : Rows.LawS4133BRoundTripToldSaid :=
  Claim7.holds_of_told_tied_any_at .later 3 Ybaf.f3 "fmt.errorf" [] [] (true, "e358402f72da5c428f09ee47eed6015646484acc4479141535ba9b3eb9d4a51a") false false [.sentinel] true (by kernel_rfl) rfl rfl rfl laidOut (by kernel_rfl) rfl ⟨rfl, rfl, rfl, rfl, rfl, rfl, rfl⟩ rfl rfl (by kernel_rfl) (by kernel_rfl) Ybaf.func3 (by kernel_rfl)
    (of_decide_eq_true (by kernel_rfl)) (of_decide_eq_true (by kernel_rfl)) stops.symm rfl stopKnobs.symm (by kernel_rfl)
    (by kernel_rfl) (by kernel_rfl) (by kernel_rfl) (by kernel_rfl) (by kernel_rfl) (by kernel_rfl) (by kernel_rfl) (by kernel_rfl) (by kernel_rfl) rfl (by kernel_rfl) rfl rfl
    rfl rfl
    rfl (by kernel_rfl) (by kernel_rfl) (by kernel_rfl) (by decide) (by kernel_rfl) lawS4133BRoundTrip_row_tie
    (OpenClaim.moreEntering_of (by kernel_rfl) (by kernel_rfl) (by kernel_rfl) (by kernel_rfl) (by kernel_rfl) (by kernel_rfl) (by kernel_rfl) (by kernel_rfl) (by kernel_rfl) (by kernel_rfl))
    ⟨_, WideRow.started_initial, quiet _⟩
    (fun os started _ H enc _ => lifted os started H enc)

#print axioms proved
end Go.Proofs.YbulkcgomFmt.lawS4133BRoundTrip
