import Derived.Test.YbulkcgomInv
import Derived.Deep.CutBlock
namespace Go.Proofs.Ybulkcgom
open Go.RowKit

theorem take_succ_snoc (ns : List (List UInt8)) (k : Nat) (h : k < ns.length) : ns.take (k + 1) = ns.take k ++ [ns.getD k []] := by
  rw [List.take_succ_eq_append_getElem h]; simp [h]

theorem idx_at (d : List (List UInt8)) (hnd : d.Nodup) (jj : Nat) (hj : jj < d.length) : d.idxOf d[jj] = jj := by
  have hm : d[jj] ∈ d := List.getElem_mem hj
  have h1 : d.idxOf d[jj] < d.length := List.idxOf_lt_length_iff.2 hm
  have h2 : d[d.idxOf d[jj]] = d[jj] := List.getElem_idxOf h1
  have hp := List.pairwise_iff_getElem.1 hnd
  rcases Nat.lt_trichotomy (d.idxOf d[jj]) jj with h | h | h
  · exact absurd h2 (hp _ _ h1 hj h)
  · exact h
  · exact absurd h2.symm (hp _ _ hj h1 h)
theorem find_hit {d : List (List UInt8)} {s : List UInt8} (hnd : d.Nodup) {jj : Nat} (hj : jj < d.length) (he : d[jj] = s) : (Value.int .i64 (jj : Int)) = .int .i64 (if s ∈ d then (d.idxOf s : Int) else -1) := by
  subst he
  rw [if_pos (List.getElem_mem hj), idx_at d hnd jj hj]
theorem find_on {d : List (List UInt8)} {s : List UInt8} {jj : Nat} (hno : ∀ i (hi : i < d.length), i < jj → d[i] ≠ s) (hj : jj < d.length) (he : d[jj] ≠ s) : ∀ i (hi : i < d.length), i < jj + 1 → d[i] ≠ s := by
  intro i hi hlt
  by_cases e : i = jj
  · subst e; exact he
  · exact hno i hi (by omega)
theorem find_none {d : List (List UInt8)} {s : List UInt8} {jj : Nat} (hno : ∀ i (hi : i < d.length), i < jj → d[i] ≠ s) (hj : ¬ jj < d.length) : (Value.int .i64 (-1)) = .int .i64 (if s ∈ d then (d.idxOf s : Int) else -1) := by
  rw [if_neg]
  intro hm
  obtain ⟨i, hi, e⟩ := List.getElem_of_mem hm
  exact hno i hi (by omega) e

set_option maxRecDepth 1000000 in
set_option maxHeartbeats 4000000 in
theorem check (w : World) (B0 Bp Bi ic : Nat) (ns : List (List UInt8)) (A C : Nat → Nat) (hn : ns.length ≤ 1024) (hlen : ∀ s ∈ ns, s.length ≤ 140737488355328)
    (h0 : CI w w B0 Bp Bi ns A C (.slice none 0 0) [] []) :
    Calls Yba.prog 5 #[.pointer (some ⟨Bp, 0, none⟩), .slice (some ⟨Bi, 0, none⟩) ns.length ic] w fun e w' => e = .returned (.bool true) ∧ Below B0 w w' := by
  go_enter Yba.func5, Yba.ntmps5
  go_upto_block 0 with fail
  go_cut [5, 6] (fun v sz wx => sz = .int .i64 (total (dd ns) : Int) ∧ CI w wx B0 Bp Bi ns A C v (dd ns) (dd ns))
  case first =>
    go_wp2_with fail
    go_loopg [5, 6, 22] ns.length (fun g v sz i wr => ∃ k : Nat, k ≤ ns.length ∧ g = ns.length - k ∧ i = .int .i64 k ∧ sz = .int .i64 (total (dd (ns.take k)) : Int) ∧ CI w wr B0 Bp Bi ns A C v (dd (ns.take k)) (dd (ns.take k)))
    case atStart => exact ⟨0, Nat.zero_le _, rfl, rfl, rfl, h0⟩
    case round =>
      obtain ⟨k, hk, rfl, rfl, rfl, hC⟩ := hrel
      by_cases hkn : k < ns.length
      · have hsn : ns.getD k [] ∈ ns := by simp [hkn]
        have hsl := hlen _ hsn
        have hstep : dd (ns.take (k + 1)) = addName (dd (ns.take k)) (ns.getD k []) := by rw [take_succ_snoc ns k hkn, dd_snoc]
        have hci := hC.ins.cell hkn
        obtain ⟨_, hby⟩ := hC.ins.bytes k hkn
        have hdl := dd_length (ns.take k)
        have hdl2 : (ns.take k).length ≤ k := List.length_take_le _ _
        have htot : (total (dd (ns.take k)) : Int) + ((ns.getD k []).length : Int) ≤ 144115188075855872 := by
          have h1 := total_le (d := dd (ns.take k)) (m := 140737488355328) (fun s hs => hlen s (List.mem_of_mem_take (dd_mem hs)))
          have h3 : (dd (ns.take k)).length * 140737488355328 ≤ 1023 * 140737488355328 := Nat.mul_le_mul_right _ (by omega)
          omega
        have hnd := dd_nodup (ns.take k)
        generalize hsd : ns.getD k [] = s at hsl hstep hci hby htot
        generalize dd (ns.take k) = d at hstep hC hdl htot hnd
        have hS : Hid (dd (ns.take (k + 1)) = addName d s) := hstep
        have hD : Hid (ns.getD k [] = s) := hsd
        have htd0 : (0 : Int) ≤ (total d : Int) := Int.natCast_nonneg _
        clear hstep hsd
        have hz : (k : Int) < (ns.length : Int) := by omega
        have hcv := run_convert_bytes_back (P := Yba.prog) wr 24 9 5 ⟨A k, 0, none⟩ (C k) s Yba.underlying24 Yba.underlying5 Yba.underlying9 hby.cell
        obtain ⟨va, vc, rfl⟩ := own_shape hC.own
        have hrow : ∀ j (hj : j < d.length), ∃ g, va = some ⟨g, 0, none⟩ ∧ wr.cell? ⟨g, j, none⟩ = some (.string ⟨d[j].toArray⟩) := fun j hj => by
          obtain ⟨g, cap, e, _, _⟩ := hC.own.form (by omega)
          simp only [Value.slice.injEq, true_and] at e
          obtain ⟨rfl, rfl⟩ := e
          refine ⟨g, rfl, ?_⟩
          rw [hC.own.cellAt j (by omega)]
          simp [str, hj]
        go_upto_block 2 with fail
        clear hcv hci
        go_cut [10] (fun want wx => want = .int .i64 (if s ∈ d then (d.idxOf s : Int) else -1) ∧ wr = wx)
        case first =>
          go_wp2_with fail
          go_loopg [10, 30] d.length (fun g want j wx => ∃ jj : Nat, jj ≤ d.length ∧ g = d.length - jj ∧ j = .int .i64 jj ∧ want = .int .i64 (-1) ∧ (∀ i (hi : i < d.length), i < jj → d[i] ≠ s) ∧ wr = wx)
          case atStart => exact ⟨0, Nat.zero_le _, rfl, rfl, rfl, fun i _ hi => absurd hi (Nat.not_lt_zero _), rfl⟩
          case round =>
            obtain ⟨jj, hjj, rfl, rfl, rfl, hno, rfl⟩ := hrel
            by_cases hjn : jj < d.length
            · obtain ⟨g, rfl, hcell⟩ := hrow jj hjn
              have hjz : (jj : Int) < (d.length : Int) := by omega
              by_cases he : d[jj] = s
              · have heq : (d[jj] == s) = true := by simp [he]
                go_wp2
                go_meet
                case rel => go_light; exact ⟨find_hit hnd hjn he, rfl⟩
              · have heq : (d[jj] == s) = false := by simp [he]
                go_wp2
                go_roundg (d.length - (jj + 1))
                case measure => go_light; omega
                case rel => go_light; exact ⟨jj + 1, by omega, rfl, by go_num, rfl, find_on hno hjn he, rfl⟩
            · have hjz : ¬ ((jj : Int) < (d.length : Int)) := by omega
              go_wp2
              go_meet
              case rel => go_light; exact ⟨find_none hno hjn, rfl⟩
        case rest =>
          obtain ⟨rfl, rfl⟩ := hcut
          clear hrow
          go_upto_if 41 with fail
          go_cut [5, 6, 10] (fun v sz want wx => want = .int .i64 ((addName d s).idxOf s : Int) ∧ sz = .int .i64 (total (addName d s) : Int) ∧ CI w wx B0 Bp Bi ns A C v d (addName d s))
          case first =>
            by_cases hs : s ∈ d
            · simp only [hs, if_true]
              have hi0 : (0 : Int) ≤ (d.idxOf s : Int) := Int.natCast_nonneg _
              go_wp2
              go_meet
              case rel =>
                go_light
                have e : addName d s = d := by simp [addName, hs]
                rw [e]
                exact ⟨rfl, rfl, hC⟩
            · simp only [hs, if_false]
              have e : addName d s = d ++ [s] := by simp [addName, hs]
              have hB0 := hC.lt
              obtain ⟨i0, hi0, hz0, hz1, hz2⟩ := info_parts Yba.info9
              go_wp2_with (at_builtin; refine wpList_append_lies _ rfl _ _ _ rfl B0 9 i0 _ 1 16 Yba.underlying22 hi0 hz0 hz1 hz2 rfl (by omega) (.slice va d.length vc) d.length (d.map str) rfl (hC.own.alloc _) ⟨wr.heap.size, 0, none⟩ 1 1 [str s] rfl rfl (World.news_of_block (cs := #[str s]) (t := 9) (fr := (0, 0)) (heap_alloc_new wr _)) (by simp [str, Value.oneCell']) (by omega) (by unfold maxLen; omega) (by omega) (by simp; omega) (wr.heap.size + 1) (by simp) ?_; intro g gc w4 hown4 hgrow4 hat4 hg4)
              go_meet
              case rel =>
                go_light
                rw [e]
                refine ⟨?_, ?_, hC.push s hown4 hgrow4 hat4⟩
                · rw [List.idxOf_append, if_neg hs]; simp
                · rw [total_snoc]; simp
          case rest =>
            obtain ⟨rfl, rfl, hC2⟩ := hcut
            clear hC
            have hby2 := (hC2.ins.bytes k hkn).2
            rw [hD.out] at hby2
            obtain ⟨mr, nv, kv, hCC⟩ := hC2
            have hP := hCC.1
            go_wp2_with (go_at_call 6; refine (number_any _ B0 Bp mr nv kv d (A k) (C k) s hP (by unfold maxLen; omega) hby2 (by omega) htot).mono ?_; rintro e w2 ⟨rfl, hpost⟩)
            go_roundg (ns.length - (k + 1))
            case measure => go_light; omega
            case rel =>
              go_light
              refine ⟨k + 1, by omega, rfl, by go_num, ?_, ?_⟩
              · rw [hS.out]
              · rw [hS.out]; exact CI.numbered hCC hpost
      · have hke : ns.take k = ns := List.take_of_length_le (by omega)
        rw [hke] at hC
        have hz : ¬ ((k : Int) < (ns.length : Int)) := by omega
        go_wp2
        go_meet
        case rel => exact ⟨rfl, hC⟩
  case rest =>
    obtain ⟨rfl, hC⟩ := hcut
    clear h0
    have hdl := dd_length ns
    have htd : (total (dd ns) : Int) ≤ 144115188075855872 := by have := total_bd hlen hn; omega
    have htd0 : (0 : Int) ≤ (total (dd ns) : Int) := Int.natCast_nonneg _
    have hl2 : ∀ i, i < ns.length → (ns.getD i []).length ≤ 140737488355328 := fun i hi => hlen _ (by simp [hi])
    have hnd := dd_nodup ns
    have hdm : ∀ s ∈ dd ns, s.length ≤ maxLen := fun s hs => by have := hlen s (dd_mem hs); unfold maxLen; omega
    clear hlen
    generalize dd ns = d at hdl htd htd0 hnd hC hdm
    go_upto_block 4 with fail
    go_cut [] (fun wx => Spoilt B0 wc wx)
    case first =>
      have hI := hC.ins
      go_wp2_with fail
      go_loopg [60] ns.length (fun g i wr => ∃ k : Nat, k ≤ ns.length ∧ g = ns.length - k ∧ i = .int .i64 k ∧ Spoilt B0 wc wr)
      case atStart => exact ⟨0, Nat.zero_le _, rfl, rfl, Spoilt.refl _ _⟩
      case round =>
        obtain ⟨k, hk, rfl, rfl, hSp⟩ := hrel
        by_cases hkn : k < ns.length
        · have hz : (k : Int) < (ns.length : Int) := by omega
          have hci := hSp.cellBi hI hkn
          have hsl := hl2 k hkn
          generalize hsd : (ns.getD k []).length = m at hci hsl
          have hD : Hid ((ns.getD k []).length = m) := hsd
          clear hsd
          go_wp2_with fail
          clear hci
          go_loopg [66] m (fun g i wx => ∃ j : Nat, j ≤ m ∧ g = m - j ∧ i = .int .i64 j ∧ Spoilt B0 wc wx)
          case atStart => exact ⟨0, Nat.zero_le _, rfl, rfl, hSp⟩
          case round =>
            obtain ⟨j, hj, rfl, rfl, hSj⟩ := hrel
            by_cases hjm : j < m
            · have hjz : (j : Int) < (m : Int) := by omega
              obtain ⟨⟨u, hcu⟩, hfu⟩ := hSj.byte hI hkn (j := j) (by rw [hD.out]; exact hjm)
              go_wp2
              go_roundg (m - (j + 1))
              case measure => go_light; omega
              case rel => go_light; exact ⟨j + 1, by omega, rfl, by go_num, hSj.set hI hkn j _⟩
            · have hjz : ¬ ((j : Int) < (m : Int)) := by omega
              go_wp2
              go_roundg (ns.length - (k + 1))
              case measure => go_light; omega
              case rel => go_light; exact ⟨k + 1, by omega, rfl, by go_num, hSj⟩
        · have hz : ¬ ((k : Int) < (ns.length : Int)) := by omega
          go_wp2
          go_meet
          case rel => go_light; exact hSp
    case rest =>
      obtain ⟨⟨mr, nv, kv, hP⟩, hv, hB⟩ := hC.spoilt hcut
      clear hC hcut
      have hlm := hP.lenMap
      obtain ⟨na, nc, rfl⟩ := own_shape hP.names
      obtain ⟨ka, kc, rfl⟩ := own_shape hP.marks
      obtain ⟨va, vc, rfl⟩ := own_shape hv
      have hcell : ∀ j x, (prow (.map mr) (.slice na d.length nc) (.slice ka d.length kc) (total d : Int))[j]? = some x → wc.cell? ⟨Bp, j, none⟩ = some x := fun j x hx => by simp [World.cell?, hP.blk, hx]
      have c0 : wc.cell? ⟨Bp, 0, none⟩ = some (.map mr) := hcell 0 _ rfl
      have c1 : wc.cell? ⟨Bp, 1, none⟩ = some (.slice na d.length nc) := hcell 1 _ rfl
      have c2 : wc.cell? ⟨Bp, 2, none⟩ = some (.slice ka d.length kc) := hcell 2 _ rfl
      have c3 : wc.cell? ⟨Bp, 3, none⟩ = some (.int .i64 0) := hcell 3 _ rfl
      have c4 : wc.cell? ⟨Bp, 4, none⟩ = some (.slice none 0 0) := hcell 4 _ rfl
      have c5 : wc.cell? ⟨Bp, 5, none⟩ = some (.slice none 0 0) := hcell 5 _ rfl
      have c6 : wc.cell? ⟨Bp, 6, none⟩ = some (.int .i64 (total d : Int)) := hcell 6 _ rfl
      have c7 : wc.cell? ⟨Bp, 7, none⟩ = some (.slice none 0 0) := hcell 7 _ rfl
      clear hcell
      go_upto_block 8 with (at_len; refine wpList_lenMap (by rfl) _ 25 rfl _ rfl _ hlm ?_)
      clear hlm
      go_cut [4] (fun s4 wx => wc = wx)
      case first =>
        go_wp2_with fail
        go_loopg [112] d.length (fun g i wx => ∃ k : Nat, k ≤ d.length ∧ g = d.length - k ∧ i = .int .i64 k ∧ wc = wx)
        case atStart => exact ⟨0, Nat.zero_le _, rfl, rfl, rfl⟩
        case round =>
          obtain ⟨k, hk, rfl, rfl, rfl⟩ := hrel
          by_cases hkd : k < d.length
          · have hz : (k : Int) < (d.length : Int) := by omega
            obtain ⟨gv, cv, ev, _, _⟩ := hv.form (by omega)
            obtain ⟨gn, cn, en, _, _⟩ := hP.names.form (by omega)
            obtain ⟨gk, ck, ek, _, _⟩ := hP.marks.form (by omega)
            simp only [Value.slice.injEq, true_and] at ev en ek
            obtain ⟨rfl, rfl⟩ := ev
            obtain ⟨rfl, rfl⟩ := en
            obtain ⟨rfl, rfl⟩ := ek
            have mv : wc.cell? ⟨gv, k, none⟩ = some (.string ⟨d[k].toArray⟩) := by
              rw [hv.cellAt k (by omega)]; simp [str, hkd]
            have mn : wc.cell? ⟨gn, k, none⟩ = some (.string ⟨d[k].toArray⟩) := by
              rw [hP.names.cellAt k (by omega)]; simp [str, hkd]
            have mk : wc.cell? ⟨gk, k, none⟩ = some (.int .i64 0) := by
              rw [hP.marks.cellAt k (by omega)]; simp [hkd]
            have hlk := look_name hP d[k] (hdm _ (List.getElem_mem hkd))
            rw [if_pos (List.getElem_mem hkd), idx_at d hnd k hkd] at hlk
            simp only [List.getElem_mem hkd, decide_true] at hlk
            go_wp2
            go_roundg (d.length - (k + 1))
            case measure => go_light; omega
            case rel => go_light; exact ⟨k + 1, by omega, rfl, by go_num, rfl⟩
          · have hz : ¬ ((k : Int) < (d.length : Int)) := by omega
            go_wp2
            go_meet
            case rel => rfl
      case rest =>
        obtain rfl := hcut
        have e27 := fun x => Lib.run_eql_slice_nil (P := Yba.prog) x 27 _ none 0 0 0 0 Yba.underlying27
        have e24 := fun x => Lib.run_eql_slice_nil (P := Yba.prog) x 24 _ none 0 0 0 0 Yba.underlying24
        have e26 := fun x => Lib.run_eql_slice_nil (P := Yba.prog) x 26 _ none 0 0 0 0 Yba.underlying26
        go_wp2
        go_ret
        exact ⟨rfl, hB⟩

#print axioms check
end Go.Proofs.Ybulkcgom
