import Derived.Test.YbulkcgomFmtBase
import Derived.Deep.DeepCutAuto
import Derived.Deep.CutBlock
import Derived.Deep.Light
import Derived.Outline
namespace Go.Proofs.YbulkcgomFmt
open Go.RowKit

theorem Ybaf.info5 : (Ybaf.prog.info? 5).map (fun i => (i.zero, i.size, i.bytes)) = some (some (.int .u8 0), 1, 1) := by kernel_rfl

set_option maxRecDepth 10000 in
theorem or128 : ∀ y : Fin 256, y.val ||| 128 = y.val % 128 + 128 := by decide
theorem or_high (x : Nat) : bits BinOp.or IntKind.u8 ((x : Int) % 256) 128 = ((x % 128 + 128 : Nat) : Int) := by
  have h0 : ((x : Int) % 256).toNat = x % 256 := by omega
  rw [u8_or _ 128 (by omega) (by omega) (by decide) (by decide), h0]
  have h2 : x % 256 ||| (128 : Int).toNat = x % 128 + 128 := by
    show x % 256 ||| 128 = x % 128 + 128
    have h1 : x % 256 < 256 := Nat.mod_lt _ (by decide)
    have h3 : x % 256 % 128 = x % 128 := by omega
    rw [← h3]
    exact or128 ⟨x % 256, h1⟩
  rw [h2]

/-- One byte more. -/
theorem push_step {w wr w1 : World} {base n : Nat} {v v1 : Value} {xs : List Value} {done : List UInt8} {o : Obj} {g c : Nat} {y : Int} (z : UInt8) (hz : (z.toNat : Int) = y)
    (hown : w1.ownsRow base 5 1 (.slice (some ⟨g, 0, none⟩) (n + done.length + 1) c) (n + done.length + 1) (xs ++ bv done ++ [.int .u8 y])) (hgrow : (wr.alloc o).grownBy w1 v1.ownBlock) (hat : v1.ownBlock = some g ∨ g = wr.heap.size + 1)
    (hK : Kept w wr (fun b => v.ownBlock = some b)) (hloc : ∀ b, v1.ownBlock = some b → v.ownBlock = some b ∨ w.heap.size ≤ b) :
    w1.ownsRow base 5 1 (.slice (some ⟨g, 0, none⟩) (n + (done ++ [z]).length) c) (n + (done ++ [z]).length) (xs ++ bv (done ++ [z])) ∧ Kept w w1 (fun b => v.ownBlock = some b) ∧ ∀ b, (Value.slice (some ⟨g, 0, none⟩) (n + (done ++ [z]).length) c).ownBlock = some b → v.ownBlock = some b ∨ w.heap.size ≤ b := by
  subst hz
  have hsz := hK.size
  refine ⟨?_, ?_, ?_⟩
  · rw [bv_append, bv_one, ← List.append_assoc, List.length_append, List.length_singleton, ← Nat.add_assoc]
    exact hown
  · refine (hK.trans (Kept.alloc wr o (fun b => v.ownBlock = some b)) (fun _ _ h => h)).trans (Kept.grown hgrow (fun b => v1.ownBlock = some b) (fun b hb => hb)) (fun x hx h => ?_)
    rcases hloc x h with h | h
    · exact h
    · omega
  · intro b' hb'
    simp [Value.ownBlock] at hb'
    subst hb'
    rcases hat with h | h
    · exact hloc _ h
    · exact .inr (by omega)

set_option maxRecDepth 100000 in
theorem appendUvarint (w : World) (base : Nat) (v : Value) (n : Nat) (xs : List Value) (x : Nat) (hx : x < 18446744073709551616) (hown : w.ownsRow base 5 1 v n xs) (hb : base ≤ w.heap.size) (hn : n ≤ 10000) :
    Calls Ybaf.prog 17 #[v, .int .u64 x] w fun e w' => ∃ v', e = .returned v' ∧ w'.ownsRow base 5 1 v' (n + (enc x).length) (xs ++ bv (enc x)) ∧ Kept w w' (fun b => v.ownBlock = some b) ∧ ∀ b, v'.ownBlock = some b → v.ownBlock = some b ∨ w.heap.size ≤ b := by
  obtain ⟨i0, hi0, hz0, hz1, hz2⟩ := info_parts Ybaf.info5
  go_enter Ybaf.func17, Ybaf.ntmps17
  go_wp2_with fail
  go_loopg [0, 1] 9 (fun g v1 x1 wr => ∃ (x' : Nat) (done : List UInt8), g ≤ 9 ∧ x1 = .int .u64 (x' : Int) ∧ x' < 2 ^ (7 * g + 1) ∧ done ++ encF g x' = enc x ∧ wr.ownsRow base 5 1 v1 (n + done.length) (xs ++ bv done) ∧ Kept w wr (fun b => v.ownBlock = some b) ∧ ∀ b, v1.ownBlock = some b → v.ownBlock = some b ∨ w.heap.size ≤ b)
  case atStart => exact ⟨x, [], Nat.le_refl _, rfl, by omega, rfl, by simpa [bv] using hown, Kept.refl _ _, fun b hb => .inl hb⟩
  case round =>
    obtain ⟨x', done, hg9, rfl, hx', henc, hown1, hK, hloc⟩ := hrel
    have hB : base ≤ wr.heap.size := Nat.le_trans hb hK.size
    have hdl : done.length ≤ 10 := by
      have h1 := congrArg List.length henc
      have h2 := enc_length x
      simp at h1; omega
    have hE : Hid (done ++ encF gk x' = enc x) := henc
    clear henc hx
    by_cases hs : x' < 128
    · have hsz : ¬ ((128 : Int) ≤ (x' : Int)) := by omega
      go_wp2_with (at_builtin; refine wpList_append_lies _ rfl _ _ _ rfl base 5 i0 _ 1 1 Ybaf.underlying23 hi0 hz0 hz1 hz2 rfl (by omega) _ _ _ rfl (hown1.alloc _) ⟨wr.heap.size, 0, none⟩ 1 1 [.int .u8 (x' : Int)] rfl rfl (World.news_of_block (cs := #[.int .u8 (x' : Int)]) (t := 5) (fr := (0, 0)) (heap_alloc_new wr _)) (by simp [Value.oneCell']) (by omega) (by unfold maxLen; omega) (by omega) (by simp; omega) (wr.heap.size + 1) (by simp) ?_; intro g gc w4 hown4 hgrow4 hat4 hg4)
      go_ret
      obtain ⟨h1, h2, h3⟩ := push_step (UInt8.ofNat x') (by simp; omega) hown4 hgrow4 hat4 hK hloc
      have he := hE.out
      rw [encF_small _ _ hs] at he
      rw [he] at h1 h3
      exact ⟨_, by rw [← he]; simp [Nat.add_assoc], h1, h2, h3⟩
    · have hsz : ((128 : Int) ≤ (x' : Int)) := by omega
      have hor := or_high x'
      cases gk with
      | zero => omega
      | succ f =>
        go_wp2_with (at_builtin; refine wpList_append_lies _ rfl _ _ _ rfl base 5 i0 _ 1 1 Ybaf.underlying23 hi0 hz0 hz1 hz2 rfl (by omega) _ _ _ rfl (hown1.alloc _) ⟨wr.heap.size, 0, none⟩ 1 1 [.int .u8 ((x' % 128 + 128 : Nat) : Int)] rfl rfl (World.news_of_block (cs := #[.int .u8 ((x' % 128 + 128 : Nat) : Int)]) (t := 5) (fr := (0, 0)) (heap_alloc_new wr _)) (by simp [Value.oneCell']) (by omega) (by unfold maxLen; omega) (by omega) (by simp; omega) (wr.heap.size + 1) (by simp) ?_; intro g gc w4 hown4 hgrow4 hat4 hg4)
        go_roundg f
        case measure => go_light; omega
        case rel =>
          go_light
          obtain ⟨h1, h2, h3⟩ := push_step (UInt8.ofNat (x' % 128 + 128)) (by simp; omega) hown4 hgrow4 hat4 hK hloc
          have he := hE.out
          rw [encF_big _ _ hs] at he
          refine ⟨x' / 128, done ++ [UInt8.ofNat (x' % 128 + 128)], by omega, by simp, ?_, by simpa using he, ?_, h2, ?_⟩
          · have : 2 ^ (7 * (f + 1) + 1) = 2 ^ (7 * f + 1) * 128 := by rw [show 7 * (f + 1) + 1 = (7 * f + 1) + 7 by omega, Nat.pow_add]
            omega
          · simpa [Nat.add_assoc] using h1
          · simpa [Nat.add_assoc] using h3

#print axioms appendUvarint

theorem or_shift {acc y s : Nat} (h1 : acc < 2 ^ s) (h2 : acc + y * 2 ^ s < 18446744073709551616) : bits BinOp.or IntKind.u64 (acc : Int) (IntKind.u64.wrap ((y : Int) * 2 ^ s)) = ((acc + y * 2 ^ s : Nat) : Int) := by
  have e : (y : Int) * 2 ^ s = ((y * 2 ^ s : Nat) : Int) := by simp
  rw [e]
  have e2 : IntKind.u64.wrap ((y * 2 ^ s : Nat) : Int) = ((y * 2 ^ s : Nat) : Int) := by
    simp only [IntKind.wrap, IntKind.bits, IntKind.signed]
    generalize y * 2 ^ s = q at h2
    simp
    omega
  rw [e2, u64_or_nat acc (y * 2 ^ s) (by omega) (by omega), Nat.or_comm, nat_join s (y * 2 ^ s) acc (Nat.mul_mod_left _ _) h1, Nat.add_comm]

set_option maxRecDepth 10000 in
theorem and127 : ∀ y : Fin 256, y.val &&& 127 = y.val % 128 := by decide
theorem and_low (y : Nat) (h : y < 256) : bits BinOp.and IntKind.u8 (y : Int) 127 = ((y % 128 : Nat) : Int) := by
  have := u8_and_nat y 127 h (by decide)
  rw [and127 ⟨y, h⟩] at this
  exact this
theorem ret2_eq {k k' : IntKind} {a a' b b' : Int} (h1 : a = a') (h2 : b = b') : Ending.returned (.tuple #[.int k a, .int k' b]) = .returned (.tuple #[.int k a', .int k' b']) := by rw [h1, h2]

theorem byte_at {x i f x' : Nat} (h : (enc x).drop i = encF f x') (hi : i < (enc x).length) : (enc x)[i] = (encF f x').headD 0 := by
  rw [← h, List.drop_eq_getElem_cons hi]; rfl

set_option maxRecDepth 100000 in
theorem uvarint22 (w : World) (g o m c x : Nat) (hx : x < 18446744073709551616) (hl : (enc x).length ≤ m) (_hm : m ≤ 1000000)
    (hcells : ∀ j (hj : j < (enc x).length), w.cell? ⟨g, o + j, none⟩ = some (.int .u8 ((enc x)[j].toNat : Int))) :
    Calls Ybaf.prog 22 #[.slice (some ⟨g, o, none⟩) m c] w fun e w' => e = .returned (.tuple #[.int .u64 (x : Int), .int .i64 ((enc x).length : Int)]) ∧ w' = w := by
  go_enter Ybaf.func22, Ybaf.ntmps22
  go_wp2_with fail
  go_loopg [4, 5, 10] 9 (fun f a s ii wr => w = wr ∧ ∃ i acc x' : Nat, i + f = 9 ∧ ii = .int .i64 (i : Int) ∧ s = .int .u64 ((7 * i : Nat) : Int) ∧ a = .int .u64 (acc : Int) ∧ acc < 2 ^ (7 * i) ∧ x = acc + x' * 2 ^ (7 * i) ∧ (enc x).drop i = encF f x' ∧ x' < 2 ^ (7 * f + 1))
  case atStart => exact ⟨rfl, 0, 0, x, rfl, rfl, rfl, rfl, by simp, by simp, rfl, by omega⟩
  case round =>
    obtain ⟨rfl, i, acc, x', hif, rfl, rfl, rfl, hacc, hxe, hdrop, hx'⟩ := hrel
    have hlen := encF_length gk x'
    have hd := congrArg List.length hdrop
    rw [List.length_drop] at hd
    have hi : i < (enc x).length := by omega
    have hb := hcells i hi
    rw [byte_at hdrop hi] at hb
    have hE : Hid (x = acc + x' * 2 ^ (7 * i) ∧ (enc x).drop i = encF gk x') := ⟨hxe, hdrop⟩
    clear hxe hdrop hcells
    by_cases hs : x' < 128
    · rw [encF_small _ _ hs] at hb hd
      have hbb : w.cell? ⟨g, o + i, none⟩ = some (.int .u8 (x' : Int)) := by rw [hb]; simp; omega
      clear hb
      have hiz : (i : Int) < (m : Int) := by omega
      have hi10 : ((i : Int) == 10) = false := by simp; omega
      have hv := or_shift (acc := acc) (y := x') (s := 7 * i) hacc (by rw [← hE.out.1]; exact hx)
      have hfin : Hid ((i : Int) + 1 = ((enc x).length : Int)) := by simp at hd; show _ = _; omega
      by_cases h9 : i = 9
      · have hi9 : ((i : Int) == 9) = true := by simp; omega
        have hx2 : x' < 2 := by
          have : gk = 0 := by omega
          subst this; simpa using hx'
        have hx1 : ¬ ((1 : Int) < (x' : Int)) := by omega
        clear h9
        go_wp2
        go_ret2
        exact ⟨ret2_eq (by rw [hE.out.1]; simp) hfin.out, rfl⟩
      · have hi9 : ((i : Int) == 9) = false := by simp; omega
        go_wp2
        go_ret2
        exact ⟨ret2_eq (by rw [hE.out.1]; simp) hfin.out, rfl⟩
    · cases gk with
      | zero => omega
      | succ f =>
        rw [encF_big _ _ hs] at hb hd
        have hbb : w.cell? ⟨g, o + i, none⟩ = some (.int .u8 ((x' % 128 + 128 : Nat) : Int)) := by rw [hb]; simp; omega
        clear hb
        have hiz : (i : Int) < (m : Int) := by omega
        have hi10 : ((i : Int) == 10) = false := by simp; omega
        have hand := and_low (x' % 128 + 128) (by omega)
        have hxe := hE.out.1
        have hq : x' = x' / 128 * 128 + x' % 128 := by omega
        have hp : 2 ^ (7 * (i + 1)) = 2 ^ (7 * i) * 128 := by rw [show 7 * (i + 1) = 7 * i + 7 by omega, Nat.pow_add]
        have hxz : x = acc + x' % 128 * 2 ^ (7 * i) + x' / 128 * 2 ^ (7 * (i + 1)) := by
          rw [hp, hxe]
          have : x' * 2 ^ (7 * i) = (x' / 128 * 128 + x' % 128) * 2 ^ (7 * i) := by rw [← hq]
          rw [this, Nat.add_mul, Nat.mul_assoc, Nat.mul_comm 128]
          omega
        have hv := or_shift (acc := acc) (y := x' % 128) (s := 7 * i) hacc (by omega)
        have hX : Hid (x = acc + x' % 128 * 2 ^ (7 * i) + x' / 128 * 2 ^ (7 * (i + 1))) := hxz
        have hlt : Hid (acc + x' % 128 * 2 ^ (7 * i) < 2 ^ (7 * (i + 1))) := by
          show _ < _
          rw [hp]
          have : x' % 128 * 2 ^ (7 * i) ≤ 127 * 2 ^ (7 * i) := Nat.mul_le_mul_right _ (by omega)
          omega
        rw [show (x' % 128 + 128) % 128 = x' % 128 by omega] at hand
        clear hxe hq hp hxz
        generalize hy : x' % 128 + 128 = y at hbb hand
        generalize hz : x' % 128 = z at hand hv hX hlt hy
        have hz128 : z < 128 := by omega
        have hy1 : ¬ ((y : Int) < 128) := by omega
        have hy2 : (y : Int) ≤ 255 := by omega
        have HY : Hid (x' % 128 = z ∧ z + 128 = y) := ⟨hz, hy⟩
        clear hy hz
        go_wp2
        go_roundg f
        case measure => go_light; omega
        case rel =>
          go_light
          refine ⟨rfl, i + 1, acc + z * 2 ^ (7 * i), x' / 128, by omega, by simp, by simp; omega, by simp, hlt.out, hX.out, ?_, ?_⟩
          · have h2 := congrArg List.tail hE.out.2
            rw [encF_big _ _ hs, List.tail_drop] at h2
            exact h2
          · have : 2 ^ (7 * (f + 1) + 1) = 2 ^ (7 * f + 1) * 128 := by rw [show 7 * (f + 1) + 1 = (7 * f + 1) + 7 by omega, Nat.pow_add]
            omega

/-- 'uvarint(b)'. -/
theorem uvarint19 (w : World) (g o m c x : Nat) (hx : x < 18446744073709551616) (hl : (enc x).length ≤ m) (hmc : m ≤ c) (_hm : c ≤ 9223372036854775807) (hm2 : m ≤ 1000000)
    (hcells : ∀ j (hj : j < (enc x).length), w.cell? ⟨g, o + j, none⟩ = some (.int .u8 ((enc x)[j].toNat : Int))) :
    Calls Ybaf.prog 19 #[.slice (some ⟨g, o, none⟩) m c] w fun e w' => ∃ ad, e = .returned (.tuple #[.int .u64 (x : Int), .slice ad (m - (enc x).length) (c - (enc x).length), .bool true]) ∧ ((enc x).length < c → ad = some ⟨g, o + (enc x).length, none⟩) ∧ w' = w.drew := by
  have he := enc_length x
  have hc := uvarint22 w g o m c x hx hl hm2 hcells
  clear hcells
  generalize (enc x).length = l at hc he hl ⊢
  obtain ⟨hl1, hl10⟩ := he
  have hl0 : ¬ ((l : Int) ≤ 0) := by omega
  have hlm : (l : Int) ≤ (m : Int) := by omega
  have hmcz : (m : Int) ≤ (c : Int) := by omega
  go_enter Ybaf.func19, Ybaf.ntmps19
  go_wp2_with (go_at_call 22; refine hc.mono ?_; rintro e w' ⟨rfl, rfl⟩)
  clear hc
  by_cases hcl : c = l
  · subst hcl
    obtain rfl : m = c := by omega
    go_region
    all_goals go_wp2
    all_goals go_ret3
    all_goals exact ⟨some ⟨g, o, none⟩, by rw [Nat.sub_self]; rfl, fun h => absurd h (Nat.lt_irrefl _), rfl⟩
  · have hcl2 : ¬ ((c : Int) = (l : Int)) := by omega
    go_region
    all_goals go_wp2
    all_goals go_ret3
    all_goals exact ⟨_, rfl, fun _ => rfl, rfl⟩
end Go.Proofs.YbulkcgomFmt
