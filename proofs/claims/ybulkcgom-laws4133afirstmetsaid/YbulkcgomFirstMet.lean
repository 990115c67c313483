import Derived.Test.YbulkcgomFill
import Derived.Deep.OwnRows
import Derived.Laws.IdiomStrings
import Derived.ProofKit
import Derived.OpenShut
import Derived.SizedLaws
import Derived.SliceStrings
import Derived.ChangeOld
namespace Go.Proofs.Ybulkcgom.lawS4133AFirstMet
open Go.ChangeShapes Go.WideShapes Go.ChangeAt Go.RowKit

theorem info24 : (Yba.prog.info? 24).map (fun i => (i.zero, i.size, i.bytes)) = some (some (.slice none 0 0), 1, 24) := by kernel_rfl

theorem bytes_of (s : ByteArray) (c : Nat) {w1 : World} {a : Nat} (h : w1.heap[a]? = some (.cells (bytesRow s c) 5 ((bytesRow s c).size, (bytesRow s c).size + 1))) : Bytes w1 a s.data.toList := by
  refine ⟨_, _, h, fun j hj => ?_, fun j hj => ?_⟩
  · have hj' : j < s.data.size := by simpa using hj
    simp only [bytesRow]
    rw [Array.getElem?_append_left (by simpa using hj')]
    simp only [Array.getElem?_map, Array.getElem?_eq_getElem hj', Option.map_some, Array.getElem_toList]
  · have h1 : s.data.size ≤ (bytesRow s c).size := by simp [bytesRow]
    have hj' : j < s.data.size := by simpa using hj
    have : ¬ (bytesRow s c).size ≤ j := by omega
    simp [this]

theorem fill_next {w wr : World} {ns : List (List UInt8)} {n k : Nat} {A C : Nat → Nat} (h : Fill w wr ns n k A C) (hk : k < n) (s : ByteArray) (c : Nat) (hs : ns.getD k [] = s.data.toList) :
    ∃ A' C', Fill w ((wr.setCell ⟨w.heap.size, k, none⟩ (.slice (some ⟨wr.heap.size, 0, none⟩) s.size c)).alloc (.cells (bytesRow s c) 5 ((bytesRow s c).size, (bytesRow s c).size + 1))).drew ns n (k + 1) A' C' := by
  have hlt := (h.cell hk).2.2
  have hsz : s.size = s.data.toList.length := by simp
  refine h.step hk hs (a := wr.heap.size) (c := c) ?_ ?_ (Nat.le_refl _) (bytes_of s c ?_)
  · exact ((Kept.setCell wr ⟨w.heap.size, k, none⟩ _ (fun b => b = w.heap.size) rfl).trans (Kept.alloc _ _ _) (fun _ _ h => h)).trans (Kept.drew _ (fun b => b = w.heap.size)) (fun _ _ h => h)
  · intro cur hcb
    show (World.alloc _ _).heap[w.heap.size]? = _
    rw [Below.heap_alloc _ _ _ (by simpa using hlt), heap_set hcb, ← hsz]
  · show (World.alloc _ _).heap[wr.heap.size]? = _
    have := heap_alloc_new (wr.setCell ⟨w.heap.size, k, none⟩ (.slice (some ⟨wr.heap.size, 0, none⟩) s.size c)) (.cells (bytesRow s c) 5 ((bytesRow s c).size, (bytesRow s c).size + 1))
    simpa using this

set_option maxRecDepth 1000000 in
set_option maxHeartbeats 1000000 in
theorem walk (w : World) (a0 : Option Addr) (len cap : Nat) (ss : List ByteArray) (hm : len ≤ maxLen)
    (hs : ∀ i, i < len → ∃ b off, a0 = some ⟨b, off, none⟩ ∧ w.cell? ⟨b, off + i, none⟩ = some (.string (ss.getD i ByteArray.empty))) (hl : len ≤ ss.length) (hz : ∀ s ∈ ss.take len, s.size ≤ 140737488355328) :
    Calls Yba.prog 3 #[.slice a0 len cap] w fun e w' => e = .returned (.bool true) ∧ Below w.heap.size w w' := by
  unfold maxLen at hm
  by_cases h1024 : 1024 < len
  · have hgt : (1024 : Int) < (len : Int) := by omega
    go_enter Yba.func3, Yba.ntmps3
    go_wp2
    go_ret
    exact ⟨rfl, Below.refl _ _⟩
  · have hgt : ¬ (1024 : Int) < (len : Int) := by omega
    have hmk := run_make_row' (P := Yba.prog) 23 24 (.slice none 0 0) 24 Yba.underlying23 info24 rfl .i64 .i64 len (by omega) (by omega)
    obtain ⟨ns, hns, hnl⟩ : ∃ ns : List (List UInt8), ns = (ss.take len).map (·.data.toList) ∧ ns.length = len := ⟨_, rfl, by simp; omega⟩
    have hlen : ∀ s ∈ ns, s.length ≤ 140737488355328 := fun s hs => by
      subst hns
      obtain ⟨x, hx, rfl⟩ := List.mem_map.1 hs
      simpa using hz x hx
    clear hz
    go_enter Yba.func3, Yba.ntmps3
    go_upto_block 0 with fail
    clear hmk
    have hS0 := fill_start w ns len
    go_cut [] (fun wx => ∃ A C, Fill w wx ns len len A C)
    case first =>
      go_wp2_with fail
      go_loopg [15] len (fun g i wr => ∃ k : Nat, k ≤ len ∧ g = len - k ∧ i = .int .i64 k ∧ ∃ A C, Fill w wr ns len k A C)
      case atStart => exact ⟨0, Nat.zero_le _, rfl, rfl, _, _, hS0⟩
      case round =>
        obtain ⟨k, hk, rfl, rfl, A, C, hF⟩ := hrel
        clear hS0
        by_cases hkn : k < len
        · have hz1 : (k : Int) < (len : Int) := by omega
          obtain ⟨b, off, rfl, hcell⟩ := hs k hkn
          have hbw : b < w.heap.size := World.block_lt_of_cell? _ _ hcell
          have hcr : wr.cell? ⟨b, off + k, none⟩ = some (.string (ss.getD k ByteArray.empty)) := (hF.below.cell (p := ⟨b, off + k, none⟩) hbw).trans hcell
          obtain ⟨⟨u, hcu⟩, hfu, hlt⟩ := hF.cell hkn
          have hnk : ns.getD k [] = (ss.getD k ByteArray.empty).data.toList := by
            have hk2 : k < ss.length := by omega
            subst hns; simp [hkn, hk2]
          generalize ss.getD k ByteArray.empty = s at hcr hnk
          have hN : Hid (ns.getD k [] = s.data.toList) := hnk
          clear hnk hcell hs hns
          have hcv := run_bytes_of_string (P := Yba.prog) wr 9 24 5 s Yba.underlying9 Yba.underlying24 Yba.underlying5
          generalize grownCap wr s.size 0 5 = c at hcv
          go_wp2
          go_roundg (len - (k + 1))
          case measure => go_light; omega
          case rel => go_light; exact ⟨k + 1, by omega, rfl, by go_num, fill_next hF hkn s c hN.out⟩
        · have hz : ¬ ((k : Int) < (len : Int)) := by omega
          go_wp2
          go_meet
          case rel => obtain rfl : k = len := by omega
                      exact ⟨A, C, hF⟩
    case rest =>
      obtain ⟨A, C, hF⟩ := hcut
      clear hS0
      subst hnl
      have hC := hF.done
      clear hns hs
      go_wp2_with (go_at_call 5; refine (check _ _ _ _ _ ns A C (by omega) hlen hC).mono ?_; rintro e w2 ⟨rfl, hb2⟩)
      go_ret
      exact ⟨rfl, (hF.below.alloc (by have := hF.below.size; omega) _).trans hb2⟩

theorem own : ownKnob Yba.prog.godebug = none := by kernel_rfl
theorem laidOut : laidOutB Yba.prog = true := by kernel_rfl
theorem cells9 : Yba.prog.cellsOf 9 = 1 := by kernel_rfl

theorem weightsAll_mem {H : Type} {P : Program} {e : TypeId} {x : DataW H} : ∀ {l : List (DataW H)}, x ∈ l → ∀ n ∈ x.weights P e, n ∈ DataW.weightsAll P e l
  | y :: r, hx, n, hn => by
    simp only [DataW.weightsAll, List.mem_append]
    rcases List.mem_cons.1 hx with rfl | hx
    · exact Or.inl hn
    · exact Or.inr (weightsAll_mem hx n hn)

/-- The form's own reach, of a string inside a slice of strings. -/
theorem sized_inner {H : Type} {P : Program} {ts : List TypeId} {ds : List (DataW H)} (h : (DataW.weightsEach P ts ds).all (· ≤ reachBytes) = true) {j : Nat} {t e : TypeId} {elems spare : List (DataW H)} {bs : List UInt8}
    (ht : ts[j]? = some t) (hd : ds[j]? = some (.slice elems spare)) (hu : P.underlying t = some (.slice e)) (hx : DataW.lit (.string bs) ∈ elems) : bs.length ≤ reachBytes := by
  refine of_decide_eq_true (List.all_eq_true.1 h _ (DataW.weights_mem_each ht hd _ ?_))
  simp only [DataW.weights, hu, List.mem_cons, List.mem_append]
  exact Or.inr (Or.inl (weightsAll_mem hx _ (by simp [DataW.weights])))

set_option maxRecDepth 100000 in
theorem lifted (os : Os) (started : os.Started) (H : Type) (enc : TypeId × Value → H) :
    ReturnsInHanded {} Yba.checked os 3 .any (Rows.lawS4133AFirstMetSpec.pre6 enc Yba.prog Yba.f3 Rows.lawS4133AFirstMetRow.domain false) (Rows.lawS4133AFirstMetSpec.post enc Yba.prog Yba.f3 false true false false) := by
  refine returnsInHanded_of_change_sized (C := Yba.checked) own started (by kernel_rfl) Yba.func3
    (ChangeSpec.witness6 (enc := enc) (C := Yba.checked) false ⟨#[], #[.slice none 0 0], []⟩ 8 (by kernel_rfl) (by kernel_rfl) (by kernel_rfl) (by kernel_rfl)) ?_
  intro W base args ds gs before hval0 hW _ hsz0 _
  have hsz : (DataW.weightsEach Yba.prog (Yba.f3.params.toList ++ Rows.lawS4133AFirstMetSpec.plain.varTypes Yba.prog) (ds ++ gs)).all (· ≤ reachBytes) = true := hsz0
  clear hsz0
  have hval : ∀ (j : Nat) t v, Yba.f3.params[j]? = some t → args[j]? = some v → Value.okWide Yba.prog W .any base t v := hval0
  have hW' := hW
  obtain ⟨p, q, hA0, hV, rfl, _, _⟩ := hW
  have hA : DataW.TrodAll enc Yba.prog W 0 (fun _ => true) true Yba.f3.params.toList args.toList ds p := hA0
  rw [Yba.params3] at hA hval hsz
  obtain ⟨v0, d0, rfl, rfl, h0⟩ := trodAll_one hA
  obtain ⟨rfl, rfl⟩ := trodVars_none hV
  obtain ⟨a0, len, cap, rfl⟩ := okWide_slice Yba.underlying22 (hval 0 22 v0 rfl rfl)
  have k0 := h0
  have lt0 : ∀ x ∈ p, x.block < W.heap.size := by obtain ⟨m, hm⟩ := k0; exact DataW.trod_lt m _ _ _ hm
  clear hA0 hval0
  simp only [List.append_nil] at hW'
  have hw : Calls Yba.prog 3 #[.slice a0 len cap] W fun e w' => e = .returned (.bool true) ∧ Below W.heap.size W w' := by
    obtain ⟨fuel, hf⟩ := h0
    rcases open_strings Yba.underlying22 Yba.underlying9 cells9 hf with ⟨hcs, _⟩ | ⟨x, l, c, ss, hcs, _, hl, hm, hz, hx, hcell, hws⟩
    · simp [Value.cells] at hcs
      obtain ⟨rfl, rfl, rfl⟩ := hcs
      exact walk W none 0 0 [] (by unfold maxLen; omega) (fun i hi => absurd hi (Nat.not_lt_zero _)) (Nat.le_refl _) (by simp)
    · simp [Value.cells] at hcs
      obtain ⟨rfl, rfl, rfl⟩ := hcs
      simp only [if_true] at hz
      simp only [Prod.mk.injEq] at hx
      obtain ⟨rfl, -⟩ := hx
      refine walk W _ len cap ss (by omega) (fun i hi => ?_) (by omega) (fun s hs => ?_)
      · obtain ⟨b, off, spot⟩ := x
        have hspot : spot = none := by simpa [Addr.add] using World.cell?_spot (hcell 0 (by omega))
        subst hspot
        exact ⟨b, off, rfl, by have := hcell i (by omega); rwa [add_plain] at this⟩
      · have h1 := sized_inner hsz (j := 0) (t := 22) (e := 9) (bs := s.data.toList) rfl rfl Yba.underlying22 (by simp only [strs]; exact List.mem_map.2 ⟨s, hs, rfl⟩)
        have h2 : s.data.toList.length = s.size := by simp
        simp only [reachBytes] at h1
        omega
  refine hw.mono fun e W' ⟨he, bel⟩ => ?_
  subst he
  exact ⟨_, rfl, _, _, _, [], _, [], hW', trodAll_mk1 (shut_bool Yba.underlying4 _), (trodAll_mk1 (Below.trod laidOut (by kernel_rfl) (of_decide_eq_true (by kernel_rfl)) k0 bel lt0)), rfl, bel.frame _, fun h => by cases h⟩

theorem proved : Rows.LawS4133AFirstMetSaid :=
  OpenClaim.holds_of_wide 3 Yba.f3 rfl rfl rfl rfl rfl rfl rfl ⟨rfl, rfl, rfl, rfl, rfl⟩ rfl rfl rfl rfl rfl (by kernel_rfl) Yba.func3 (by kernel_rfl)
    (of_decide_eq_true (by kernel_rfl)) (by unfold Func.isWrapper; first | (rw [if_pos (by decide +kernel)]; kernel_rfl) | (rw [if_neg (by decide +kernel)]; exact ⟨rfl, rfl⟩))
    (fun os started H enc _ => lifted os started H enc)

#print axioms proved
end Go.Proofs.Ybulkcgom.lawS4133AFirstMet
