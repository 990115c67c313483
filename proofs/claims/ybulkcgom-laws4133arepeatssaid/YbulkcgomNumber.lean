import Derived.Test.YbulkcgomState
import Derived.Deep.RegionLaw
import Derived.Deep.DeepCutAuto
import Derived.Deep.Light
import Derived.Outline
namespace Go.Proofs.Ybulkcgom
open Go.RowKit

theorem zero3 (w : World) : (zeroValue 3).run Yba.prog w = .ok (.int .i64 0) w := by rfl
theorem Yba.info9 : (Yba.prog.info? 9).map (fun i => (i.zero, i.size, i.bytes)) = some (some (.string ⟨#[]⟩), 1, 16) := by kernel_rfl
theorem Yba.info3 : (Yba.prog.info? 3).map (fun i => (i.zero, i.size, i.bytes)) = some (some (.int .i64 0), 1, 8) := by kernel_rfl

theorem key_str {s : List UInt8} (h : s.length ≤ maxLen) : keyOf Yba.prog 9 (.string ⟨s.toArray⟩) = some (.string s) := by
  simpa using WideMaps.keyOf_string_mk (P := Yba.prog) Yba.underlying9 (s := ⟨s.toArray⟩) (by simpa [ByteArray.size] using h)

/-- What the look-up of a name gives. -/
theorem look_name {w : World} {B0 Bp : Nat} {mr : Option Nat} {nv kv : Value} {d : List (List UInt8)} (h : PS w B0 Bp mr nv kv d) (s : List UInt8) (hlen : s.length ≤ maxLen) :
    (Instr.lookup 25 (.map mr) (.string ⟨s.toArray⟩) true).run Yba.prog w = .ok (.tuple #[.int .i64 (if s ∈ d then (d.idxOf s : Int) else 0), .bool (decide (s ∈ d))]) w := by
  obtain ⟨hnd, ⟨rfl, rfl, _⟩ | ⟨bm, rfl, hP⟩⟩ := h
  · exact Maps.look_nil true (Maps.string_keyed Yba.underlying9) Yba.underlying25 (zero3 _) (key_str hlen)
  · obtain ⟨v, ps, hlk, hv⟩ := hP.map.look_ok (Maps.string_keyed Yba.underlying9) Yba.underlying25 (zero3 _) (plainElem_int Yba.underlying3 (by decide)) (key_str hlen)
    rw [numD_has] at hlk
    rw [hlk]
    by_cases hs : s ∈ d
    · rw [numD_at d s hs hnd] at hv
      obtain ⟨c, rfl, hc, _⟩ := plainElem_int_inv Yba.underlying3 hv
      simp at hc
      simp [hs, hc.1]
    · rw [Maps.atKey_of_not_has (by rw [numD_has]; simp [hs])] at hv
      obtain ⟨c, rfl, hc, _⟩ := plainElem_int_inv Yba.underlying3 hv
      simp at hc
      simp [hs, hc.1]

set_option maxRecDepth 100000 in
theorem number_hit (w : World) (B0 Bp : Nat) (mr : Option Nat) (nv kv : Value) (d : List (List UInt8)) (a cap : Nat) (s : List UInt8) (h : PS w B0 Bp mr nv kv d) (hs : s ∈ d) (hlen : s.length ≤ maxLen)
    (hby : Bytes w a s) :
    Calls Yba.prog 6 #[.pointer (some ⟨Bp, 0, none⟩), .slice (some ⟨a, 0, none⟩) s.length cap] w fun e w' => e = .returned (.int .i64 (d.idxOf s : Int)) ∧ w' = w.drew := by
  have c0 : w.cell? ⟨Bp, 0, none⟩ = some (.map mr) := by simp [World.cell?, h.blk, prow]
  have hcv := run_convert_bytes_back (P := Yba.prog) w.drew 24 9 5 ⟨a, 0, none⟩ cap s Yba.underlying24 Yba.underlying5 Yba.underlying9 hby.cell
  have hlk := look_name (w := w.drew) (B0 := B0) (Bp := Bp) (mr := mr) (nv := nv) (kv := kv) (d := d) h.drew s hlen
  simp only [hs, decide_true, if_true] at hlk
  clear h hby
  go_enter Yba.func6, Yba.ntmps6
  go_wp2
  go_region
  go_wp2
  go_ret
  exact ⟨rfl, rfl⟩


/-- At the cut behind 'if p.numbers == nil': the parser has its map. -/
def Mid (w wx : World) (B0 Bp : Nat) (mr : Option Nat) (nv kv : Value) (d : List (List UInt8)) : Prop :=
  ∃ bm, PG wx B0 Bp bm nv kv d d.length d (total d : Int) ∧ Kept w wx (FootS Bp mr nv kv) ∧ (mr = some bm ∨ w.heap.size ≤ bm)

theorem mid_old {w : World} {B0 Bp bm : Nat} {nv kv : Value} {d : List (List UInt8)} (h : PS w B0 Bp (some bm) nv kv d) : Mid w w.drew B0 Bp (some bm) nv kv d := by
  obtain ⟨hnd, ⟨e, _⟩ | ⟨bm', e, hP⟩⟩ := h
  · simp at e
  · simp at e; subst e
    exact ⟨_, hP.drew, Kept.drew w _, .inl rfl⟩
theorem mid_new {w : World} {B0 Bp : Nat} {nv kv : Value} {d : List (List UInt8)} (h : PS w B0 Bp none nv kv d) : Mid w ((w.setCell ⟨Bp, 0, none⟩ (.map (some w.heap.size))).alloc (.map #[] 0)).drew B0 Bp none nv kv d := by
  obtain ⟨hnd, ⟨_, rfl, rfl, rfl, hB, hb⟩ | ⟨bm', e, hP⟩⟩ := h
  · have := PG.made hB hb
    exact ⟨_, this.1.drew, (((Kept.refl w (FootS Bp none _ _)).trans this.2 (fun _ _ h => .inl h)).trans (Kept.drew _ (FootS Bp none _ _)) (fun _ _ h => h)), .inr (Nat.le_refl _)⟩
  · simp at e

/-- What a call of 'number' leaves. -/
def NumPost (w w' : World) (B0 Bp : Nat) (mr : Option Nat) (nv kv : Value) (d' : List (List UInt8)) : Prop :=
  ∃ mr' nv' kv', PS w' B0 Bp mr' nv' kv' d' ∧ Kept w w' (FootS Bp mr nv kv) ∧ (∀ b, FootS Bp mr' nv' kv' b → FootS Bp mr nv kv b ∨ w.heap.size ≤ b) ∧ ∀ b, nv'.ownBlock = some b → nv.ownBlock = some b ∨ w.heap.size ≤ b

theorem num_done {w wc w' : World} {B0 Bp bm : Nat} {mr : Option Nat} {nv kv nv' kv' : Value} {d : List (List UInt8)} {s : List UInt8} (hnd : d.Nodup) (hs : s ∉ d) (hK : Kept w wc (FootS Bp mr nv kv)) (hbm : mr = some bm ∨ w.heap.size ≤ bm)
    (hS : Step wc w' Bp bm nv kv nv' kv') (hP : PG w' B0 Bp bm nv' kv' (d ++ [s]) (d ++ [s]).length (d ++ [s]) (total (d ++ [s]) : Int)) : NumPost w w' B0 Bp mr nv kv (d ++ [s]) := by
  have hsz := hK.size
  refine ⟨some bm, nv', kv', ⟨?_, .inr ⟨bm, rfl, hP⟩⟩, hK.trans hS.1 ?_, ?_, ?_⟩
  · have := addName_nodup hnd s
    simpa [addName, hs] using this
  · rintro x hx (e | e | e | e)
    · exact .inl e
    · rcases hbm with h | h
      · exact .inr (.inl (by rw [h, e]))
      · omega
    · exact .inr (.inr (.inl e))
    · exact .inr (.inr (.inr e))
  · rintro b (e | e | e | e)
    · exact .inl (.inl e)
    · have e := Option.some.inj e
      rcases hbm with h | h
      · exact .inl (.inr (.inl (by rw [h, e])))
      · exact .inr (by omega)
    · rcases hS.2.1 b e with h | h
      · exact .inl (.inr (.inr (.inl h)))
      · exact .inr (by omega)
    · rcases hS.2.2 b e with h | h
      · exact .inl (.inr (.inr (.inr h)))
      · exact .inr (by omega)
  · intro b e
    rcases hS.2.1 b e with h | h
    · exact .inl h
    · exact .inr (by omega)

set_option maxRecDepth 100000 in
theorem number_miss (w : World) (B0 Bp : Nat) (mr : Option Nat) (nv kv : Value) (d : List (List UInt8)) (a cap : Nat) (s : List UInt8) (h : PS w B0 Bp mr nv kv d) (hs : s ∉ d) (hlen : s.length ≤ maxLen)
    (hby : Bytes w a s) (hda : d.length ≤ 1024) (htot : (total d : Int) + s.length ≤ 144115188075855872) :
    Calls Yba.prog 6 #[.pointer (some ⟨Bp, 0, none⟩), .slice (some ⟨a, 0, none⟩) s.length cap] w fun e w' => e = .returned (.int .i64 (d.length : Int)) ∧
      NumPost w w' B0 Bp mr nv kv (d ++ [s]) := by
  have hnd := h.1
  have c0 : w.cell? ⟨Bp, 0, none⟩ = some (.map mr) := by simp [World.cell?, h.blk, prow]
  have hcv := run_convert_bytes_back (P := Yba.prog) w.drew 24 9 5 ⟨a, 0, none⟩ cap s Yba.underlying24 Yba.underlying5 Yba.underlying9 hby.cell
  have hlk := look_name (w := w.drew) (B0 := B0) (Bp := Bp) (mr := mr) (nv := nv) (kv := kv) (d := d) h.drew s hlen
  simp only [hs, decide_false, if_false] at hlk
  have hmm := @run_makeMap Yba.prog
  have hmn := fun (x : World) => run_eql_map_nil (P := Yba.prog) x 25 9 3 mr Yba.underlying25
  have f0 : w.frozen? ⟨Bp, 0, none⟩ = false := by simp [World.frozen?, h.blk]
  have hlt := lt_of_block h.blk
  have hfar := h.bytes_far hby
  go_enter Yba.func6, Yba.ntmps6
  go_wp2
  go_region
  clear hcv hlk
  go_upto_if 24 with fail
  go_cut [] (fun wx => Mid w wx B0 Bp mr nv kv d)
  case first =>
    cases mr with
    | none =>
      go_wp2
      go_meet
      case rel => exact mid_new h
    | some bm =>
      go_wp2
      go_meet
      case rel => exact mid_old h
  case rest =>
    obtain ⟨bm, hP, hK, hbm⟩ := hcut
    have hby2 : Bytes wc a s := hby.of_block (hK.block a hby.lt hfar)
    clear c0 f0 hmn hmm h hby hlt
    obtain ⟨na, nc, rfl⟩ := own_shape hP.names
    obtain ⟨ka, kc, rfl⟩ := own_shape hP.marks
    have c1 : wc.cell? ⟨Bp, 1, none⟩ = some (.slice na d.length nc) := hP.cell 1 _ rfl
    have f1 := hP.free 1
    have hlt := hP.lt
    obtain ⟨i0, hi0, hz0, hz1, hz2⟩ := info_parts Yba.info9
    have hcvA : ∀ x : World, Bytes x a s → (convert 24 9 (.slice (some ⟨a, 0, none⟩) s.length cap)).run Yba.prog x = .ok (.string ⟨s.toArray⟩) x := fun x hx => run_convert_bytes_back (P := Yba.prog) x 24 9 5 ⟨a, 0, none⟩ cap s Yba.underlying24 Yba.underlying5 Yba.underlying9 hx.cell
    have hcv := hcvA wc.drew hby2
    have hnB : (Value.slice na d.length nc).ownBlock ≠ some Bp := fun e => (hP.names_ne e).1 rfl
    have hnA : (Value.slice na d.length nc).ownBlock ≠ some a := fun e => by
      obtain ⟨_, cur, hh⟩ := own_is hP.names e
      obtain ⟨cur', fr, hh', _⟩ := hby2
      rw [hh'] at hh; simp at hh
    have hkA : ∀ (o : Obj) (x : World), ((wc.alloc o).drew).grownBy x (Value.slice na d.length nc).ownBlock → x.heap[Bp]? = wc.heap[Bp]? ∧ x.heap[a]? = wc.heap[a]? := fun o x hg =>
      ⟨(hg.block Bp (by simp; omega) (Ne.symm hnB)).trans (Below.heap_alloc wc o Bp hlt), (hg.block a (by have := hby2.lt; simp; omega) (Ne.symm hnA)).trans (Below.heap_alloc wc o a hby2.lt)⟩
    have hB0 := hP.base
    go_upto_region 7 with fail
    go_cut [] (fun wx => ∃ nv', PG wx B0 Bp bm nv' (.slice ka d.length kc) (d ++ [s]) d.length d (total d : Int) ∧ Step wc wx Bp bm (.slice na d.length nc) (.slice ka d.length kc) nv' (.slice ka d.length kc))
    case first =>
      clear hcvA
      go_region_law ((refine step_append_lies _ (by rfl) _ _ _ (by rfl) B0 9 i0 _ 1 16 Yba.underlying22 hi0 hz0 hz1 hz2 rfl (by omega) (.slice na d.length nc) d.length (d.map str) (by rfl) ((hP.names.alloc _).drew) ⟨wc.heap.size, 0, none⟩ 1 1 [str s] (by rfl) (by rfl) (World.news_of_block (cs := #[str s]) (t := 9) (fr := (0, 0)) (heap_alloc_new wc _)) (by simp [str, Value.oneCell']) (by omega) (by unfold maxLen; omega) (by omega) (by simp; omega) (wc.heap.size + 1) (by simp) ?_; intro g gc w1 hown1 hgrow hat hg1; have c2 := (World.cell?_of_block (a := ⟨Bp, 1, none⟩) (hkA _ _ hgrow).1).trans c1; have f2 := (World.frozen?_of_block (a := ⟨Bp, 1, none⟩) (hkA _ _ hgrow).1).trans f1))
      all_goals
        go_wp2_with fail
        go_meet
        case rel => exact name_step hP s hown1 hgrow hat
    case rest =>
      obtain ⟨nv1, hP1, hS1⟩ := hcut
      clear c1 f1 hlt hcvA hcv hnB hnA hkA hB0 hi0 hz0 hz1 hz2 hby2 hP
      obtain ⟨g1, nc1, rfl, _, _⟩ := hP1.names.form (by simp)
      have c6 : wc.cell? ⟨Bp, 6, none⟩ = some (.int .i64 (total d : Int)) := hP1.cell 6 _ rfl
      have f6 := hP1.free 6
      have ht0 : (0 : Int) ≤ (total d : Int) := Int.natCast_nonneg _
      go_upto_region 8 with fail
      go_cut [] (fun wx => PG wx B0 Bp bm (.slice (some ⟨g1, 0, none⟩) (d ++ [s]).length nc1) (.slice ka d.length kc) (d ++ [s]) d.length d ((total d : Int) + (s.length : Int)) ∧ Kept wc wx (Foot Bp bm (.slice (some ⟨g1, 0, none⟩) (d ++ [s]).length nc1) (.slice ka d.length kc)))
      case first =>
        go_wp2
        go_meet
        case rel => exact hP1.set_size _
      case rest =>
        obtain ⟨hP2, hK2⟩ := hcut
        clear c6 f6 ht0
        have hS2 := hS1.trans (Step.of_kept hK2)
        clear hS1 hK2 hP1
        have c0 : wc.cell? ⟨Bp, 0, none⟩ = some (.map (some bm)) := hP2.cell 0 _ rfl
        have c1 : wc.cell? ⟨Bp, 1, none⟩ = some (.slice (some ⟨g1, 0, none⟩) (d.length + 1) nc1) := (hP2.cell 1 _ rfl).trans (by simp [prow])
        have cn : wc.cell? ⟨g1, d.length, none⟩ = some (.string ⟨s.toArray⟩) := by
          rw [hP2.names.cellAt d.length (by simp)]
          simp [str]
        obtain ⟨w3, hrun, hown3, hg3⟩ := hP2.map.drew.update (Maps.string_keyed Yba.underlying9) Yba.underlying25 (by unfold maxLen; omega) (key_str hlen) (plainElem_int Yba.underlying3 (a := (d.length : Int)) (WalkArith.wf_i64 (by omega)))
        go_upto_region 9 with fail
        go_region
        obtain ⟨hP3, hK3⟩ := hP2.drew.put s hown3 hg3
        have hS3 := hS2.trans ((Step.of_kept (Kept.drew _ _)).trans (Step.of_kept hK3))
        clear c0 c1 cn hrun hown3 hg3 hK3 hS2 hP2
        have c2 : w3.cell? ⟨Bp, 2, none⟩ = some (.slice ka d.length kc) := hP3.cell 2 _ rfl
        have f2 := hP3.free 2
        have hlt := hP3.lt
        have hB0 := hP3.base
        have hkB : (Value.slice ka d.length kc).ownBlock ≠ some Bp := fun e => (hP3.marks_ne e).1 rfl
        have hkA : ∀ (o : Obj) (x : World), (w3.alloc o).grownBy x (Value.slice ka d.length kc).ownBlock → x.heap[Bp]? = w3.heap[Bp]? := fun o x hg =>
          (hg.block Bp (by simp; omega) (Ne.symm hkB)).trans (Below.heap_alloc w3 o Bp hlt)
        obtain ⟨i0, hi0, hz0, hz1, hz2⟩ := info_parts Yba.info3
        go_wp2_with (at_builtin; refine wpList_append_lies _ rfl _ _ _ rfl B0 3 i0 _ 1 8 Yba.underlying26 hi0 hz0 hz1 hz2 rfl (by omega) (.slice ka d.length kc) d.length (List.replicate d.length (.int .i64 0)) rfl (hP3.marks.alloc _) ⟨w3.heap.size, 0, none⟩ 1 1 [.int .i64 0] rfl rfl (World.news_of_block (cs := #[.int .i64 0]) (t := 3) (fr := (0, 0)) (heap_alloc_new w3 _)) (by simp [Value.oneCell']) (by omega) (by unfold maxLen; omega) (by omega) (by simp; omega) (w3.heap.size + 1) (by simp) ?_; intro g gc w4 hown4 hgrow4 hat4 hg4; have c3 := (World.cell?_of_block (a := ⟨Bp, 2, none⟩) (hkA _ _ hgrow4)).trans c2; have f3 := (World.frozen?_of_block (a := ⟨Bp, 2, none⟩) (hkA _ _ hgrow4)).trans f2)
        go_ret
        obtain ⟨kv4, hP4, hS4⟩ := mark_step hP3 hown4 hgrow4 hat4
        exact ⟨rfl, num_done hnd hs hK hbm (hS3.trans hS4) (by simpa [total_snoc] using hP4)⟩

#print axioms number_miss
end Go.Proofs.Ybulkcgom
