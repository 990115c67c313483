/-
  Vector.AppendWire.
-/
import Derived.Test.YbulkcgomFmtDense
namespace Go.Proofs.YbulkcgomFmt
open Go.RowKit Go.Extern.Stop Go.Stop Go.Extern

set_option maxRecDepth 100000 in
set_option maxHeartbeats 1000000 in
theorem appendWire5 (F : Interp) (w : World) (hF : F.answers w.tape) (S Bn n bm N : Nat) (D : DataW Unit) (f : Nat → Nat) (hN : Num w S Bn n) (hn : n ≤ 8) (hS : S ≤ w.heap.size) (hm : w.ownsMap Ybaf.prog 9 (plainElem Ybaf.prog 31) bm N D) (hV : VMap D f) (hf : ∀ i, i < 10 → f i < 18446744073709551616)
    (base : Nat) (v : Value) (m : Nat) (xs : List Value) (hown : w.ownsRow base 5 1 v m xs) (hb : base ≤ w.heap.size) (hm2 : m ≤ 1024) :
    Calls Ybaf.prog 5 #[.map (some bm), v, .pointer (some ⟨Bn, 0, none⟩)] w fun e w' => Kept w w' (fun b => v.ownBlock = some b) ∧
      (((∀ j, n ≤ j → j < 10 → f j = 0) ∧ ∃ v', e = .returned (.tuple #[v', .nilIface]) ∧ w'.ownsRow base 5 1 v' (m + (wire f n).length) (xs ++ bv (wire f n)) ∧ ∀ b, v'.ownBlock = some b → v.ownBlock = some b ∨ w.heap.size ≤ b) ∨
       ((∃ j, n ≤ j ∧ j < 10 ∧ f j ≠ 0) ∧ ∃ a, e = .returned (.tuple #[.slice none 0 0, .iface 72 (.pointer (some a))]))) := by
  have hD := dense8 F w hF S Bn n bm N D f hN hn hS hm hV
  go_enter Ybaf.func5, Ybaf.ntmps5
  go_upto_region 1 with fail
  go_cut [8, 9] (fun p er wx => Kept w wx (fun _ => False) ∧ ∃ Bd, p = .pointer (some ⟨Bd, 0, none⟩) ∧
      (((∀ j, n ≤ j → j < 10 → f j = 0) ∧ er = .nilIface ∧ ∃ g, wx.heap[Bd]? = some (.cells #[.pointer (some ⟨Bn, 0, none⟩), .slice (some ⟨g, 0, none⟩) n n] 50 (0, 0)) ∧ Counts wx g n f) ∨ ((∃ j, n ≤ j ∧ j < 10 ∧ f j ≠ 0) ∧ ∃ a, er = .iface 72 (.pointer (some a)))))
  case first =>
    go_wp2_with (go_at_call 8; refine hD.mono ?_; rintro e w1 ⟨hK1, (⟨hgood, g, rfl, hc1, hg1⟩ | ⟨hbad, a, rfl⟩)⟩)
    · go_meet
      case rel =>
        go_light
        exact ⟨hK1.trans (Kept.alloc w1 _ (fun _ => False)) (fun _ _ h => h), _, rfl, .inl ⟨hgood, rfl, g, heap_alloc_new w1 _, hc1.of_block (Below.heap_alloc _ _ _ hc1.lt)⟩⟩
    · go_meet
      case rel =>
        go_light
        exact ⟨hK1.trans (Kept.alloc w1 _ (fun _ => False)) (fun _ _ h => h), _, rfl, .inr ⟨hbad, a, rfl⟩⟩
  case rest =>
    obtain ⟨hK1, Bd, rfl, (⟨hgood, rfl, g, hbox, hc⟩ | ⟨hbad, a, rfl⟩)⟩ := hcut
    · have cb0 : wc.cell? ⟨Bd, 0, none⟩ = some (.pointer (some ⟨Bn, 0, none⟩)) := by simp [World.cell?, hbox]
      have cb1 : wc.cell? ⟨Bd, 1, none⟩ = some (.slice (some ⟨g, 0, none⟩) n n) := by simp [World.cell?, hbox]
      clear hD
      go_wp2_with (go_at_call 9; refine (appendWire9 _ _ g n f base v m xs hc hn (fun i hi => hf i (by omega)) (own_kept0 hown hK1) (Nat.le_trans hb hK1.size) hm2).mono ?_; rintro e w2 ⟨v', rfl, hown2, hK2, hloc2⟩)
      go_ret2
      refine ⟨(hK1.weak (fun _ _ h => h.elim)).trans hK2 (fun _ _ h => h), .inl ⟨hgood, v', rfl, hown2, fun b hb => ?_⟩⟩
      rcases hloc2 b hb with h | h
      · exact .inl h
      · exact .inr (Nat.le_trans hK1.size h)
    · go_wp2
      go_ret2
      exact ⟨hK1.weak (fun _ _ h => h.elim), .inr ⟨hbad, a, rfl⟩⟩

#print axioms appendWire5
end Go.Proofs.YbulkcgomFmt
