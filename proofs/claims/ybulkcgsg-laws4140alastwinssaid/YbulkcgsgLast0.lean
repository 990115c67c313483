/-
  LawS4140ALastWins: what its walk needs.
-/
import Derived.Test.YbulkcgsgBase
namespace Go.Proofs.Ybulkcgsg
open Go.RowKit

/-- The four names. -/
def nm : Nat → ByteArray
  | 0 => ⟨#[97]⟩
  | 1 => ⟨#[98]⟩
  | 2 => ⟨#[109, 121, 104, 111, 115, 116, 110, 97, 109, 101]⟩
  | _ => ⟨#[]⟩
def key (k : Nat) : Lit := .string (nm k).data.toList
theorem nm_size (k : Nat) : (nm k).size ≤ maxLen := by
  match k with
  | 0 => decide
  | 1 => decide
  | 2 => decide
  | _ + 3 => exact Nat.zero_le _
theorem key_ne {a b : Nat} (ha : a < 4) (hb : b < 4) (h : a ≠ b) : key a ≠ key b := by
  refine lit_ne ?_
  have : ∀ a b : Fin 4, a ≠ b → (nm a.val).data.toList ≠ (nm b.val).data.toList := by decide
  exact this ⟨a, ha⟩ ⟨b, hb⟩ (fun e => h (congrArg Fin.val e))

set_option maxRecDepth 100000 in
theorem name5 (w : World) (k : Nat) (hk : k < 4) : Calls Yba.prog 5 #[.int .i64 (k : Int)] w fun e w' => e = .returned (.string (nm k)) ∧ w' = w := by
  match k, hk with
  | 0, _ =>
    go_enter Yba.func5, Yba.ntmps5
    go_wp2
    go_ret
    exact ⟨rfl, rfl⟩
  | 1, _ =>
    go_enter Yba.func5, Yba.ntmps5
    go_wp2
    go_ret
    exact ⟨rfl, rfl⟩
  | 2, _ =>
    go_enter Yba.func5, Yba.ntmps5
    go_wp2
    go_ret
    exact ⟨rfl, rfl⟩
  | 3, _ =>
    go_enter Yba.func5, Yba.ntmps5
    go_wp2
    go_ret
    exact ⟨rfl, rfl⟩

set_option maxRecDepth 100000 in
/-- 'c.Set(name, value)', c's map nil. -/
theorem set6n (w : World) (Bc : Nat) (sv dl : Value) (dv : Option Addr) (hC : Cfg w Bc none sv dl (.pointer dv)) (s v : ByteArray) (hs : s.size ≤ maxLen) :
    Calls Yba.prog 6 #[.pointer (some ⟨Bc, 0, none⟩), .string s, .string v] w fun e w' => (∃ u, e = .returned u) ∧ Cfg w' Bc (some w.heap.size) sv dl (.pointer none) ∧ w'.ownsMap Yba.prog 9 hR w.heap.size (0 + 1) ((DataW.map (H := Value) []).put (.string s.data.toList) (.held (.string v))) ∧ Kept w w' (fun b => b = Bc) := by
  have c0 : w.cell? ⟨Bc, 0, none⟩ = some (.map none) := by simp only [World.cell?, show w.heap[Bc]? = _ from hC]; rfl
  have f0 : w.frozen? ⟨Bc, 0, none⟩ = false := by simp [World.frozen?, show w.heap[Bc]? = _ from hC]
  have hlt := lt_of_block hC
  have hne : Bc ≠ w.heap.size := by omega
  have es : (w.setCell ⟨Bc, 0, none⟩ (.map (some w.heap.size))).heap.size = w.heap.size := by simp
  have hC2 : ((w.setCell ⟨Bc, 0, none⟩ (.map (some w.heap.size))).alloc (.map #[] 0)).heap[Bc]? = some (.cells #[.map (some w.heap.size), sv, dl, .pointer dv] 28 (0, 0)) := (Below.heap_alloc _ _ Bc (by rw [es]; exact hlt)).trans (heap_set hC 0 (.map (some w.heap.size)))
  have hm := World.ownsMap_made (H := Value) (w.setCell ⟨Bc, 0, none⟩ (.map (some w.heap.size))) Yba.prog 9 hR
  rw [es] at hm
  obtain ⟨w1, hrun, hown1, hg1⟩ := hm.update (Maps.string_keyed Yba.underlying9) Yba.underlying24 (by unfold maxLen; omega) (key_str hs) (show hR (.string v) = some (.held (.string v), []) from rfl)
  have hC3 : w1.heap[Bc]? = some (.cells #[.map (some w.heap.size), sv, dl, .pointer dv] 28 (0, 0)) := (hg1.block Bc (by simp; omega) (fun e => hne (Option.some.inj e))).trans hC2
  have c3 : w1.cell? ⟨Bc, 3, none⟩ = some (.pointer dv) := by simp only [World.cell?, hC3]; rfl
  have f3 : w1.frozen? ⟨Bc, 3, none⟩ = false := by simp [World.frozen?, hC3]
  have hmm : ∀ (x : World), (Instr.makeMap 24 none).run Yba.prog x = .ok (.map (some x.heap.size)) (x.alloc (.map #[] 0)) := fun x => by simp [Instr.makeMap]
  have nn := nil_nil
  go_enter Yba.func6, Yba.ntmps6
  go_wp2
  refine bodyPost_end (v := .tuple #[]) (by simp [results, Yba.results6]) rfl ⟨⟨_, rfl⟩, ?_, ?_, ?_⟩
  · exact heap_set hC3 3 (.pointer none)
  · exact map_block hown1 (Below.heap_setCell _ _ _ _ (Ne.symm hne))
  · exact (((Kept.setCell w ⟨Bc, 0, none⟩ _ (fun b => b = Bc) rfl).trans (Kept.alloc _ _ (fun _ => False)) (fun _ _ h => h.elim)).trans (Kept.grown hg1 (fun b => b = w.heap.size) (fun b hb => (Option.some.inj hb).symm)) (fun x hx e => by omega)).trans (Kept.setCell w1 ⟨Bc, 3, none⟩ _ (fun b => b = Bc) rfl) (fun _ _ h => h)

/-- The last of the first i steps that names k. -/
def last (c : Nat → Nat) : Nat → Nat → Option Nat
  | 0, _ => none
  | i + 1, k => if k = c i then some i else last c i k
/-- How many of the first k names have been set. -/
def dn (L : Nat → Option Nat) : Nat → Nat
  | 0 => 0
  | k + 1 => dn L k + if (L k).isSome = true then 1 else 0
def upd (L : Nat → Option Nat) (j t : Nat) : Nat → Option Nat := fun k => if k = j then some t else L k
theorem last_succ (c : Nat → Nat) (i : Nat) : last c (i + 1) = upd (last c i) (c i) i := by funext k; rfl
theorem dn_upd (L : Nat → Option Nat) (j t : Nat) (hj : j < 4) : dn (upd L j t) 4 = if (L j).isSome = true then dn L 4 else dn L 4 + 1 := by
  match j, hj with
  | 0, _ => cases h0 : (L 0).isSome <;> cases h1 : (L 1).isSome <;> cases h2 : (L 2).isSome <;> cases h3 : (L 3).isSome <;> simp [dn, upd, h0, h1, h2, h3]
  | 1, _ => cases h0 : (L 0).isSome <;> cases h1 : (L 1).isSome <;> cases h2 : (L 2).isSome <;> cases h3 : (L 3).isSome <;> simp [dn, upd, h0, h1, h2, h3]
  | 2, _ => cases h0 : (L 0).isSome <;> cases h1 : (L 1).isSome <;> cases h2 : (L 2).isSome <;> cases h3 : (L 3).isSome <;> simp [dn, upd, h0, h1, h2, h3]
  | 3, _ => cases h0 : (L 0).isSome <;> cases h1 : (L 1).isSome <;> cases h2 : (L 2).isSome <;> cases h3 : (L 3).isSome <;> simp [dn, upd, h0, h1, h2, h3]

/-- The map's datum: for each name the value of its last Set. -/
structure LD (D : DataW Value) (L : Nat → Option Nat) (x : Nat → ByteArray) : Prop where
  tidy : Maps.Tidy D
  has : ∀ k, k < 4 → Maps.has D (key k) = (L k).isSome
  at_ : ∀ k t z, k < 4 → L k = some t → D.atKey (key k) z = .held (.string (x t))
  size : Maps.size D = dn L 4
theorem LD.start (x : Nat → ByteArray) : LD (.map []) (fun _ => none) x := ⟨Maps.tidy_empty, fun _ _ => rfl, fun _ _ _ _ h => (by cases h), rfl⟩
theorem LD.put {D : DataW Value} {L : Nat → Option Nat} {x : Nat → ByteArray} (h : LD D L x) {j : Nat} (hj : j < 4) (t : Nat) : LD (D.put (key j) (.held (.string (x t)))) (upd L j t) x := by
  refine ⟨h.tidy.put (isKey _) _, fun k hk => ?_, fun k t' z hk hL => ?_, ?_⟩
  · by_cases e : k = j
    · subst e; exact (Maps.has_put_same h.tidy.isMap (isKey (nm k).data.toList) _).trans (by simp [upd])
    · rw [Maps.has_put_other (key_ne hk hj e), h.has k hk]; simp [upd, e]
  · by_cases e : k = j
    · subst e
      simp [upd] at hL
      subst hL
      exact Maps.atKey_put_same h.tidy.isMap (isKey _) _ z
    · simp [upd, e] at hL
      rw [Maps.atKey_put_other (key_ne hk hj e)]; exact h.at_ k t' z hk hL
  · rw [Maps.size_put h.tidy, h.has j hj, dn_upd L j t hj, h.size]

theorem look_some {w : World} {m : Option Nat} {cnt : Nat} {D : DataW Value} {L : Nat → Option Nat} {x : Nat → ByteArray} (hm : CM w m cnt D) (h : LD D L x) {k t : Nat} (hk : k < 4) (hL : L k = some t) :
    (Instr.lookup 24 (.map m) (.string (nm k)) true).run Yba.prog w = .ok (.tuple #[.string (x t), .bool true]) w := by
  cases m with
  | none =>
    obtain ⟨rfl, _⟩ := hm
    have := h.has k hk
    rw [hL] at this
    cases this
  | some b => exact look hm (nm_size k) (h.at_ k t _ hk hL) ((h.has k hk).trans (by rw [hL]; rfl))
theorem look_none {w : World} {m : Option Nat} {cnt : Nat} {D : DataW Value} {L : Nat → Option Nat} {x : Nat → ByteArray} (hm : CM w m cnt D) (h : LD D L x) {k : Nat} (hk : k < 4) (hL : L k = none) :
    (Instr.lookup 24 (.map m) (.string (nm k)) true).run Yba.prog w = .ok (.tuple #[.string ⟨#[]⟩, .bool false]) w := by
  have h0 : Maps.has D (key k) = false := (h.has k hk).trans (by rw [hL]; rfl)
  cases m with
  | none => exact Maps.look_nil true (Maps.string_keyed Yba.underlying9) Yba.underlying24 (zero9 w) (key_str (nm_size k))
  | some b => exact look hm (nm_size k) (Maps.atKey_of_not_has h0 _) h0
theorem len_cm {w : World} {m : Option Nat} {cnt : Nat} {D : DataW Value} {L : Nat → Option Nat} {x : Nat → ByteArray} (hm : CM w m cnt D) (h : LD D L x) : ∀ ty, (Builtin.len_ #[24] ty #[.map m]).run Yba.prog w = .ok (.int .i64 (dn L 4 : Int)) w := fun ty => by
  rw [← h.size]
  cases m with
  | none =>
    obtain ⟨rfl, _⟩ := hm
    simp [Builtin.len_, run_underlying Yba.underlying24, goInt]
    rfl
  | some b => exact World.ownsMap.len hm Yba.underlying24 ty

/-- What holds at the head of the law's first loop. -/
structure WL (W wr : World) (m : Option Nat) (cnt : Nat) (D : DataW Value) : Prop where
  cfg : Cfg wr W.heap.size m (.slice none 0 0) (.map none) (.pointer none)
  map : CM wr m cnt D
  kept : Kept W wr (fun _ => False)
  low : ∀ b, m = some b → W.heap.size < b

theorem set_any {W wr : World} {m : Option Nat} {cnt : Nat} {D : DataW Value} (h : WL W wr m cnt D) (hc : cnt ≤ 2000) (j : Nat) (v : ByteArray) :
    Calls Yba.prog 6 #[.pointer (some ⟨W.heap.size, 0, none⟩), .string (nm j), .string v] wr fun e w' => (∃ u, e = .returned u) ∧ ∃ b, WL W w' (some b) (cnt + 1) (D.put (key j) (.held (.string v))) := by
  have hlt := lt_of_block h.cfg
  cases m with
  | none =>
    obtain ⟨rfl, rfl⟩ := h.map
    refine (set6n wr W.heap.size _ _ _ h.cfg (nm j) v (nm_size j)).mono ?_
    rintro e w' ⟨he, hC, hm, hK⟩
    exact ⟨he, wr.heap.size, hC, hm, h.kept.trans hK (fun x hx e => by omega), fun b hb => by cases hb; exact hlt⟩
  | some b =>
    have hb := h.low b rfl
    refine (set6 wr W.heap.size b cnt D _ _ _ h.cfg h.map hc (nm j) v (nm_size j)).mono ?_
    rintro e w' ⟨he, hC, hm, hK⟩
    exact ⟨he, b, hC, hm, h.kept.trans hK (fun x hx e => by omega), h.low⟩
end Go.Proofs.Ybulkcgsg
