/-
  The wire form of a dense clock.
-/
import Derived.Test.YbulkcgomFmtNum
import Derived.Test.YbulkcgomFmtVarint
namespace Go.Proofs.YbulkcgomFmt
open Go.RowKit

/-- How many hosts lie since the last entry. -/
def gp (f : Nat → Nat) : Nat → Nat
  | 0 => 0
  | k + 1 => if f k = 0 then gp f k + 1 else 0
/-- What is written for the first k entries. -/
def wb (f : Nat → Nat) : Nat → List UInt8
  | 0 => []
  | k + 1 => if f k = 0 then wb f k else wb f k ++ (enc (gp f k) ++ enc (f k))
def wire (f : Nat → Nat) (n : Nat) : List UInt8 := enc (nzc f n) ++ wb f n
theorem gp_le (f : Nat → Nat) (k : Nat) : gp f k ≤ k := by
  induction k with
  | zero => exact Nat.le_refl _
  | succ k ih => simp only [gp]; split <;> omega
theorem wb_length (f : Nat → Nat) (k : Nat) : (wb f k).length ≤ 20 * k := by
  induction k with
  | zero => simp [wb]
  | succ k ih =>
    simp only [wb]
    split
    · omega
    · have := enc_length (gp f k); have := enc_length (f k); simp; omega

theorem Counts.kept {w w' : World} {g n : Nat} {f : Nat → Nat} {base : Nat} {v : Value} {m : Nat} {xs : List Value} (h : Counts w g n f) (hown : w.ownsRow base 5 1 v m xs) (hK : Kept w w' (fun b => v.ownBlock = some b)) : Counts w' g n f :=
  h.of_block (hK.block g h.lt (fun e => by
    obtain ⟨cur, hb, _⟩ := h
    obtain ⟨_, cur', hh⟩ := own_is hown e
    rw [hb] at hh; simp at hh))

/-- The row of bytes, two steps on. -/
theorem app_step {w wr w1 : World} {base n l : Nat} {v v1 v2 : Value} {xs : List Value} {done add : List UInt8}
    (hown : w1.ownsRow base 5 1 v2 (n + done.length + l) (xs ++ bv done ++ bv add)) (hl : add.length = l) (hK : Kept w wr (fun b => v.ownBlock = some b)) (hloc : ∀ b, v1.ownBlock = some b → v.ownBlock = some b ∨ w.heap.size ≤ b) (hK1 : Kept wr w1 (fun b => v1.ownBlock = some b))
    (hloc1 : ∀ b, v2.ownBlock = some b → v1.ownBlock = some b ∨ wr.heap.size ≤ b) :
    w1.ownsRow base 5 1 v2 (n + (done ++ add).length) (xs ++ bv (done ++ add)) ∧ Kept w w1 (fun b => v.ownBlock = some b) ∧ ∀ b, v2.ownBlock = some b → v.ownBlock = some b ∨ w.heap.size ≤ b := by
  have hsz := hK.size
  refine ⟨?_, hK.trans hK1 (fun x hx h => ?_), fun b hb => ?_⟩
  · rw [bv_append, ← List.append_assoc, List.length_append, hl, ← Nat.add_assoc]; exact hown
  · rcases hloc x h with h | h
    · exact h
    · omega
  · rcases hloc1 b hb with h | h
    · exact hloc b h
    · exact .inr (by omega)

theorem own_kept0 {w w1 : World} {base e size : Nat} {v : Value} {n : Nat} {xs : List Value} (h : w.ownsRow base e size v n xs) (hK : Kept w w1 (fun _ => False)) : w1.ownsRow base e size v n xs :=
  own_block h fun b hb => hK.block b (by obtain ⟨_, cur, hh⟩ := own_is h hb; exact lt_of_block hh) (fun h => h)
theorem Kept.cell {w w1 : World} {F : Nat → Prop} (h : Kept w w1 F) (a : Addr) (hlt : a.block < w.heap.size) (hF : ¬ F a.block) : w1.cell? a = w.cell? a := World.cell?_of_block (h.block _ hlt hF)
theorem Kept.weak {w w1 : World} {F G : Nat → Prop} (h : Kept w w1 F) (hFG : ∀ b, b < w.heap.size → F b → G b) : Kept w w1 G := ⟨h.os, h.tape, h.output, h.size, fun b hb hG => h.block b hb (fun f => hG (hFG b hb f))⟩

set_option maxRecDepth 100000 in
set_option maxHeartbeats 1000000 in
theorem appendWire9 (w : World) (hv : Value) (g n : Nat) (f : Nat → Nat) (base : Nat) (v : Value) (m : Nat) (xs : List Value) (hc : Counts w g n f) (hn : n ≤ 8) (hf : ∀ i, i < n → f i < 18446744073709551616)
    (hown : w.ownsRow base 5 1 v m xs) (hb : base ≤ w.heap.size) (hm : m ≤ 1024) :
    Calls Ybaf.prog 9 #[.agg #[hv, .slice (some ⟨g, 0, none⟩) n n], v] w fun e w' => ∃ v', e = .returned v' ∧ w'.ownsRow base 5 1 v' (m + (wire f n).length) (xs ++ bv (wire f n)) ∧ Kept w w' (fun b => v.ownBlock = some b) ∧ ∀ b, v'.ownBlock = some b → v.ownBlock = some b ∨ w.heap.size ≤ b := by
  have hnz := nzc_le f n
  have hE1 : ∀ o : Obj, Calls Ybaf.prog 18 #[.agg #[hv, .slice (some ⟨g, 0, none⟩) n n]] (w.alloc o) fun e w' => e = .returned (.int .i64 (nzc f n : Int)) ∧ Kept (w.alloc o) w' (fun _ => False) := fun o => entries18 (w.alloc o) hv g n f (hc.of_block (Below.heap_alloc w o g hc.lt)) hn
  have hlt := hc.lt
  go_enter Ybaf.func9, Ybaf.ntmps9
  go_upto_region 1 with fail
  go_cut [1] (fun v1 wx => wx.ownsRow base 5 1 v1 (m + (enc (nzc f n)).length) (xs ++ bv (enc (nzc f n))) ∧ Kept w wx (fun b => v.ownBlock = some b) ∧ (∀ b, v1.ownBlock = some b → v.ownBlock = some b ∨ w.heap.size ≤ b) ∧ wx.cell? ⟨w.heap.size, 1, none⟩ = some (.slice (some ⟨g, 0, none⟩) n n))
  case first =>
    go_wp2_with (first | (go_at_call 18; refine (hE1 _).mono ?_; rintro e w1 ⟨rfl, hK1⟩) | (go_at_call 17; refine (appendUvarint _ base v m xs (nzc f n) (by omega) (own_kept0 (hown.alloc _) hK1) (by have := hK1.size; simp at this; omega) (by omega)).mono ?_; rintro e w2 ⟨v1, rfl, hown2, hK2, hloc2⟩))
    go_meet
    case rel =>
      go_light
      have hs1 := hK1.size
      have hvlt : ∀ b, v.ownBlock = some b → b < w.heap.size := fun b hb => by obtain ⟨_, cur, hh⟩ := own_is hown hb; exact lt_of_block hh
      refine ⟨hown2, (((Kept.alloc w _ (fun b => v.ownBlock = some b)).trans hK1 (fun _ _ h => h.elim)).trans hK2 (fun _ _ h => h)), fun b hb => ?_, ?_⟩
      · rcases hloc2 b hb with h | h
        · exact .inl h
        · exact .inr (by simp at hs1; omega)
      · rw [hK2.cell _ (by simp at hs1; show w.heap.size < _; omega) (fun e => by have := hvlt _ e; simp at this), hK1.cell _ (by simp) (fun h => h)]
        simp
  case rest =>
    obtain ⟨hown1, hK1, hloc1, hbox⟩ := hcut
    clear hE1
    go_upto_block 0 with fail
    clear hbox
    go_wp2_with fail
    go_loopg [1, 5, 16] n (fun gg v1 s i wr => ∃ k : Nat, k ≤ n ∧ gg = n - k ∧ i = .int .i64 k ∧ s = .int .i64 (gp f k : Int) ∧ wr.ownsRow base 5 1 v1 (m + (enc (nzc f n) ++ wb f k).length) (xs ++ bv (enc (nzc f n) ++ wb f k)) ∧ Kept w wr (fun b => v.ownBlock = some b) ∧ ∀ b, v1.ownBlock = some b → v.ownBlock = some b ∨ w.heap.size ≤ b)
    case atStart => exact ⟨0, Nat.zero_le _, rfl, rfl, rfl, by simpa [wb] using hown1, hK1, hloc1⟩
    case round =>
      obtain ⟨k, hk, rfl, rfl, rfl, hownr, hKr, hlocr⟩ := hrel
      clear hown1 hK1 hloc1
      have hgp := gp_le f k
      have hwl := wb_length f k
      have hel := enc_length (nzc f n)
      have hll : (enc (nzc f n) ++ wb f k).length ≤ 200 := by simp; omega
      have hbr : base ≤ wr.heap.size := Nat.le_trans hb hKr.size
      by_cases hkn : k < n
      · have hkz : (k : Int) < (n : Int) := by omega
        have hcell := (hc.kept hown hKr).cell hkn
        have hfk := hf k hkn
        by_cases h0 : f k = 0
        · have hz : ((f k : Int) == 0) = true := by simp [h0]
          rw [h0] at hcell
          go_wp2
          go_roundg (n - (k + 1))
          case measure => go_light; omega
          case rel => go_light; exact ⟨k + 1, by omega, rfl, by go_num, by simp [gp, h0], by simpa [wb, h0] using hownr, hKr, hlocr⟩
        · have hz : ((f k : Int) == 0) = false := by simp [h0]
          have hG : Hid (gp f (k + 1) = 0 ∧ wb f (k + 1) = wb f k ++ (enc (gp f k) ++ enc (f k))) := ⟨by simp [gp, h0], by simp [wb, h0]⟩
          have hgl := enc_length (gp f k)
          generalize hLd : enc (nzc f n) ++ wb f k = L at hownr hll
          generalize gp f k = G at hgp hG hgl
          generalize f k = X at hcell hfk h0 hz hG
          have hLH : Hid (enc (nzc f n) ++ wb f k = L) := hLd
          clear hLd hwl hel
          go_upto_region 9 with (go_at_call 17; refine (appendUvarint _ base _ (m + L.length) (xs ++ bv L) G (by omega) hownr hbr (by omega)).mono ?_; rintro e w2 ⟨v2, rfl, hown2, hK2, hloc2⟩)
          go_wp2_with (go_at_call 17; refine (appendUvarint _ base _ _ _ X hfk hown2 (Nat.le_trans hbr hK2.size) (by omega)).mono ?_; rintro e w3 ⟨v3, rfl, hown3, hK3, hloc3⟩)
          go_roundg (n - (k + 1))
          case measure => go_light; omega
          case rel =>
            go_light
            obtain ⟨a1, a2, a3⟩ := app_step hown2 rfl hKr hlocr hK2 hloc2
            have e2 : xs ++ bv L ++ bv (enc G) = xs ++ bv (L ++ enc G) := by simp [bv_append]
            have e3 : m + L.length + (enc G).length = m + (L ++ enc G).length := by simp; omega
            rw [e2, e3] at hown3
            obtain ⟨b1, b2, b3⟩ := app_step hown3 rfl a2 a3 hK3 hloc3
            have eW : enc (nzc f n) ++ wb f (k + 1) = L ++ enc G ++ enc X := by rw [hG.out.2, ← hLH.out]; simp [List.append_assoc]
            exact ⟨k + 1, by omega, rfl, by go_num, by rw [hG.out.1]; rfl, by rw [eW]; exact b1, b2, b3⟩
      · have hkz : ¬ ((k : Int) < (n : Int)) := by omega
        obtain rfl : k = n := by omega
        go_wp2
        go_ret
        exact ⟨_, rfl, hownr, hKr, hlocr⟩

#print axioms appendWire9
end Go.Proofs.YbulkcgomFmt
