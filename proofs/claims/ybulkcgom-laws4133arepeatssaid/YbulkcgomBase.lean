/-
  The plain part: names as lists of bytes; the list of distinct names in the order met; the map's datum; the parser's own memory as one structure.
-/
import Derived.Test.YbulkcgomRows
import Derived.WalkKit
import Derived.WalkSpells
import Derived.Maps.OwnSet
import Derived.Maps.AppendAt
namespace Go.Proofs.Ybulkcgom
open Go.RowKit

theorem snoc_ind {α : Type} {p : List α → Prop} (h0 : p []) (h1 : ∀ l x, p l → p (l ++ [x])) (l : List α) : p l := by
  have key : ∀ r : List α, p r.reverse := by
    intro r
    induction r with
    | nil => exact h0
    | cons x r ih => rw [List.reverse_cons]; exact h1 _ _ ih
  have := key l.reverse
  rwa [List.reverse_reverse] at this

/-- A Go string out of its bytes. -/
def str (l : List UInt8) : Value := .string ⟨l.toArray⟩

/-- The map's datum: each name of d at its place. -/
def numD (d : List (List UInt8)) : DataW Unit := d.zipIdx.foldl (fun D p => D.put (.string p.1) (.lit (.int .i64 (p.2 : Int)))) (.map [])

theorem numD_nil : numD [] = .map [] := rfl
theorem numD_snoc (d : List (List UInt8)) (s : List UInt8) : numD (d ++ [s]) = (numD d).put (.string s) (.lit (.int .i64 (d.length : Int))) := by
  simp [numD, List.zipIdx_append]

theorem lit_ne {a b : List UInt8} (h : a ≠ b) : (Lit.string a) ≠ Lit.string b := fun e => h (Lit.string.inj e)

theorem isKey (s : List UInt8) : WideAt.IsKeyLit (.string s) := trivial

theorem numD_tidy (d : List (List UInt8)) : Maps.Tidy (numD d) := by
  induction d using snoc_ind with
  | h0 => exact Maps.tidy_empty
  | h1 d s ih => rw [numD_snoc]; exact ih.put (isKey _) _

theorem numD_has (d : List (List UInt8)) (s : List UInt8) : Maps.has (numD d) (.string s) = decide (s ∈ d) := by
  induction d using snoc_ind with
  | h0 => rfl
  | h1 d x ih =>
    rw [numD_snoc]
    by_cases h : s = x
    · subst h
      rw [Maps.has_put_same (numD_tidy d).isMap (isKey _)]; simp
    · rw [Maps.has_put_other (lit_ne h), ih]; simp [h]

theorem numD_at (d : List (List UInt8)) (s : List UInt8) (h : s ∈ d) (hn : d.Nodup) (z : DataW Unit) : (numD d).atKey (.string s) z = .lit (.int .i64 (d.idxOf s : Int)) := by
  induction d using snoc_ind with
  | h0 => cases h
  | h1 d x ih =>
    rw [numD_snoc]
    rw [List.nodup_append] at hn
    by_cases hx : s = x
    · subst hx
      have hni : s ∉ d := fun hm => hn.2.2 s hm s (by simp) rfl
      rw [Maps.atKey_put_same (numD_tidy d).isMap (isKey _), List.idxOf_append, if_neg hni]; simp
    · have hm : s ∈ d := by simpa [hx] using h
      rw [Maps.atKey_put_other (lit_ne hx), ih hm hn.1, List.idxOf_append, if_pos hm]

theorem numD_size (d : List (List UInt8)) (hn : d.Nodup) : Maps.size (numD d) = d.length := by
  induction d using snoc_ind with
  | h0 => rfl
  | h1 d x ih =>
    rw [List.nodup_append] at hn
    rw [numD_snoc, Maps.size_put (numD_tidy d), numD_has]
    have hni : x ∉ d := fun hm => hn.2.2 x hm x (by simp) rfl
    simp [hni, ih hn.1]

/-- One name more. -/
def addName (d : List (List UInt8)) (s : List UInt8) : List (List UInt8) := if s ∈ d then d else d ++ [s]
/-- The distinct names in the order met. -/
def dd (ns : List (List UInt8)) : List (List UInt8) := ns.foldl addName []
/-- The bytes of all names. -/
def total (d : List (List UInt8)) : Nat := (d.map List.length).sum

theorem addName_nodup {d : List (List UInt8)} (h : d.Nodup) (s : List UInt8) : (addName d s).Nodup := by
  unfold addName
  split
  · exact h
  · rename_i hs
    rw [List.nodup_append]
    exact ⟨h, by simp, fun a ha b hb => by simp at hb; subst hb; exact fun e => hs (e ▸ ha)⟩
theorem dd_snoc (ns : List (List UInt8)) (s : List UInt8) : dd (ns ++ [s]) = addName (dd ns) s := by simp [dd]
theorem dd_nodup (ns : List (List UInt8)) : (dd ns).Nodup := by
  induction ns using snoc_ind with
  | h0 => exact List.nodup_nil
  | h1 ns s ih => rw [dd_snoc]; exact addName_nodup ih s
theorem dd_length (ns : List (List UInt8)) : (dd ns).length ≤ ns.length := by
  induction ns using snoc_ind with
  | h0 => exact Nat.le_refl _
  | h1 ns s ih =>
    rw [dd_snoc]
    unfold addName
    split <;> simp <;> omega
theorem dd_mem {ns : List (List UInt8)} {s : List UInt8} (h : s ∈ dd ns) : s ∈ ns := by
  induction ns using snoc_ind with
  | h0 => exact h
  | h1 ns x ih =>
    rw [dd_snoc] at h
    unfold addName at h
    split at h
    · simp [ih h]
    · simp at h
      rcases h with h | h
      · simp [ih h]
      · simp [h]
theorem total_snoc (d : List (List UInt8)) (s : List UInt8) : total (d ++ [s]) = total d + s.length := by simp [total]
theorem total_le {d : List (List UInt8)} {m : Nat} (h : ∀ s ∈ d, s.length ≤ m) : total d ≤ d.length * m := by
  induction d with
  | nil => simp [total]
  | cons x r ih =>
    have h1 := h x (by simp)
    have h2 := ih (fun s hs => h s (by simp [hs]))
    simp only [total, List.map_cons, List.sum_cons, List.length_cons, Nat.add_mul] at *
    omega
theorem total_bd {ns : List (List UInt8)} (h : ∀ s ∈ ns, s.length ≤ 140737488355328) (hn : ns.length ≤ 1024) : total (dd ns) ≤ 144115188075855872 := by
  have h1 := total_le (d := dd ns) (m := 140737488355328) (fun s hs => h s (dd_mem hs))
  have h2 := dd_length ns
  have h3 : (dd ns).length * 140737488355328 ≤ 1024 * 140737488355328 := Nat.mul_le_mul_right _ (by omega)
  omega

end Go.Proofs.Ybulkcgom
