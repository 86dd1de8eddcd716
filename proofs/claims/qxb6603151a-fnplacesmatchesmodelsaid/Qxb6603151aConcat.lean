/-
  'slices.Grow' (30) at the nil slice, 'slices.Concat' (26) of two slices: a new row of the one's strings, then the other's.
-/
import Derived.Test.Qxb6603151aGuards
import Derived.Lib.AppendZeros
namespace Go.Proofs.Qxb6603151a
open Go.RowKit

theorem grow_zero (w : World) : Calls Try.prog 30 #[.slice none 0 0, .int .i64 0] w fun e w' => e = .returned (.slice none 0 0) ∧ w = w' := by
  go_enter Try.func30, Try.ntmps30
  go_wp2
  go_ret
  exact ⟨rfl, rfl⟩

def GrowPost (w : World) (n : Nat) (e : Ending) (w' : World) : Prop :=
  ∃ cap, e = .returned (.slice (some ⟨w.heap.size, 0, none⟩) 0 cap) ∧ n ≤ cap ∧ w'.ownsRow w.heap.size 9 1 (.slice (some ⟨w.heap.size, 0, none⟩) 0 cap) 0 [] ∧ Below w.heap.size w w' ∧ w.heap.size < w'.heap.size

theorem grow_some (n : Nat) (w : World) (h0 : 0 < n) (hn : n ≤ 1048576) : Calls Try.prog 30 #[.slice none 0 0, .int .i64 (n : Int)] w (GrowPost w n) := by
  obtain ⟨i0, hi, hz0, hz1, hz2⟩ := info_parts info9
  have hrun := fun ty => Lib.run_append_nil_zeros (P := Try.prog) w 22 3 ty 9 i0 (.string ByteArray.empty) .i64 .i64 Try.underlying22 Try.underlying3 hi hz0 n h0 (by rw [hz1]; omega) (by omega) (by rw [hz2]; omega)
  have hge := grownCap_ge w n 0 9
  have hle := grownCap_le_maxLen w n 0 9 (by unfold maxLen; omega)
  generalize grownCap w n 0 9 = cap at *
  generalize hC : Builtin.zeroCells (Value.string ByteArray.empty).cells n ++ Builtin.zeroCells (Value.string ByteArray.empty).cells (cap - n) = C at *
  have hCs : Hid (C.size = cap) := by
    rw [← hC]
    show _ = _
    simp [Builtin.zeroCells, Value.cells]
    omega
  clear hC
  have h0' : (0 : Int) < (n : Int) := by omega
  unfold maxLen at hle
  go_enter Try.func30, Try.ntmps30
  go_wp2_with (at_builtin; refine Lib.wpList_append_run _ rfl _ _ _ _ rfl _ _ rfl rfl _ _ (hrun _) ?_)
  go_ret
  refine ⟨cap, rfl, hge, ⟨by simp, .inr ⟨w.heap.size, cap, C, rfl, Nat.le_refl _, heap_alloc_new w _, Nat.zero_le _, by unfold maxLen; omega, by rw [hCs.out]; simp, by simp⟩⟩, ?_, ?_⟩
  · exact ((Below.refl _ _).alloc (Nat.le_refl _) _).drew
  · simp

theorem run_append_nil_empty (ao : Option Addr) (c : Nat) (ty : TypeId) (w : World) : (Builtin.append_ #[22, 22] ty #[.slice none 0 0, .slice ao 0 c]).run Try.prog w = .ok (.slice none 0 0) w := by
  obtain ⟨i0, hi, hz0, hz1, hz2⟩ := info_parts info9
  cases ao <;> simp [Builtin.append_, run_underlying Try.underlying22, sizeOf, typeInfo, hi, Builtin.lenOf, Builtin.firstCells, loadCells, loadCellsFrom]

set_option maxHeartbeats 800000 in
theorem concat_zero (q : Nat) (ha oa : Option Addr) (hcap ocap : Nat) (w : World) (c0 : w.cell? ⟨q, 0, none⟩ = some (.slice ha 0 hcap)) (c1 : w.cell? ⟨q, 1, none⟩ = some (.slice oa 0 ocap)) :
    Calls Try.prog 26 #[.slice (some ⟨q, 0, none⟩) 2 2] w fun e w' => e = .returned (.slice none 0 0) ∧ w = w' := by
  have r1 := fun ty w => run_append_nil_empty ha hcap ty w
  have r2 := fun ty w => run_append_nil_empty oa ocap ty w
  go_enter Try.func26, Try.ntmps26
  go_wp2
  refine wp_loop_rounds 3 ?_
  rw [rounds_succ]
  go_wp2
  rw [rounds_succ]
  go_wp2
  rw [rounds_succ]
  go_wp2_with fail
  refine Calls.mono (grow_zero w) ?_
  rintro e w' ⟨rfl, rfl⟩
  go_wp2_with fail
  refine wp_loop_rounds 3 ?_
  rw [rounds_succ]
  go_wp2_with (at_builtin; refine Lib.wpList_append_run _ rfl _ _ _ _ rfl _ _ rfl rfl _ _ (r1 _ _) ?_)
  rw [rounds_succ]
  go_wp2_with (at_builtin; refine Lib.wpList_append_run _ rfl _ _ _ _ rfl _ _ rfl rfl _ _ (r2 _ _) ?_)
  rw [rounds_succ]
  go_wp2
  go_ret
  exact ⟨rfl, rfl⟩

theorem strs_oneCell (ss : List Str) : ∀ u ∈ ss.map Value.string, u.oneCell' = true := by
  intro u hu
  obtain ⟨s, _, rfl⟩ := List.mem_map.1 hu
  rfl

theorem StrsAt.cells {w : World} {a : Option Addr} {ss : List Str} (h : StrsAt w a ss) : ∀ ad, a = some ad → ∀ j u, (ss.map Value.string)[j]? = some u → w.cell? (ad.add j) = some u := by
  intro ad had j u hu
  have hj : j < ss.length := by
    have := (List.getElem?_eq_some_iff.1 hu).1
    simpa using this
  rcases h with h | ⟨b, off, h, _, hc⟩
  · subst h; simp at hj
  · rw [had] at h
    simp only [Option.some.injEq] at h
    subst h
    have := hc j hj
    simp [hj] at hu
    subst hu
    rw [show (⟨b, off, none⟩ : Addr).add j = ⟨b, off + j, none⟩ from WideShapes.add_plain b off j]
    simpa [hj] using this

/-- What 'slices.Concat' leaves. -/
def ConcatPost (w : World) (ss : List Str) (e : Ending) (w' : World) : Prop :=
  ∃ ao cap, e = .returned (.slice ao ss.length cap) ∧ StrsAt w' ao ss ∧ Below w.heap.size w w'

theorem strs_of_owns {w : World} {base g cap : Nat} {ss : List Str} (h : w.ownsRow base 9 1 (.slice (some ⟨g, 0, none⟩) ss.length cap) ss.length (ss.map Value.string)) : StrsAt w (some ⟨g, 0, none⟩) ss := by
  have hg : g < w.heap.size := by
    rcases h.2 with ⟨h', _⟩ | ⟨g', cap', cur, h', _, hg, _⟩
    · simp at h'
    · simp only [Value.slice.injEq, Option.some.injEq, Addr.mk.injEq, and_true, true_and] at h'
      obtain ⟨rfl, rfl⟩ := h'
      exact (Array.getElem?_eq_some_iff.1 hg).1
  refine .inr ⟨g, 0, rfl, hg, fun j hj => ?_⟩
  rw [Nat.zero_add, h.cellAt j (by omega)]
  simp [hj]

set_option maxHeartbeats 1600000 in
set_option maxRecDepth 100000 in
theorem concat_some (q : Nat) (ha oa : Option Addr) (hcap ocap : Nat) (hd op : List Str) (w : World) (hq : q < w.heap.size) (c0 : w.cell? ⟨q, 0, none⟩ = some (.slice ha hd.length hcap)) (c1 : w.cell? ⟨q, 1, none⟩ = some (.slice oa op.length ocap))
    (h1 : StrsAt w ha hd) (h2 : StrsAt w oa op) (n1 : ha = none → hcap = 0) (n2 : oa = none → ocap = 0) (hpos : 0 < hd.length + op.length) (hl1 : hd.length ≤ 65536) (hl2 : op.length ≤ 65536) :
    Calls Try.prog 26 #[.slice (some ⟨q, 0, none⟩) 2 2] w (ConcatPost w (hd ++ op)) := by
  obtain ⟨i0, hi, hz0, hz1, hz2⟩ := info_parts info9
  have hg := grow_some (hd.length + op.length) w hpos (by omega)
  rw [Int.natCast_add] at hg
  have HG : Hid _ := hg
  clear hg
  have m1 : Hid (ha = none → hd.length = 0 ∧ hcap = 0) := fun h => ⟨by
    rcases h1 with h1 | ⟨_, _, h', _⟩
    · rw [h1]; rfl
    · rw [h] at h'; simp at h', n1 h⟩
  have m2 : Hid (oa = none → op.length = 0 ∧ ocap = 0) := fun h => ⟨by
    rcases h2 with h2 | ⟨_, _, h', _⟩
    · rw [h2]; rfl
    · rw [h] at h'; simp at h', n2 h⟩
  have H1 : Hid (StrsAt w ha hd) := h1
  have H2 : Hid (StrsAt w oa op) := h2
  clear h1 h2 n1 n2
  go_enter Try.func26, Try.ntmps26
  go_wp2
  refine wp_loop_rounds 3 ?_
  rw [rounds_succ]
  go_wp2
  rw [rounds_succ]
  go_wp2
  rw [rounds_succ]
  go_wp2_with fail
  refine Calls.mono HG.out ?_
  rintro e w1 ⟨cap, rfl, hge, hown, hb, hz⟩
  have c0' : w1.cell? ⟨q, 0, none⟩ = some (.slice ha hd.length hcap) := by rw [hb.cell (p := ⟨q, 0, none⟩) hq]; exact c0
  have c1' : w1.cell? ⟨q, 1, none⟩ = some (.slice oa op.length ocap) := by rw [hb.cell (p := ⟨q, 1, none⟩) hq]; exact c1
  have Hown : Hid (w1.ownsRow w.heap.size 9 1 (.slice (some ⟨w.heap.size, 0, none⟩) 0 cap) 0 []) := hown
  have Hb : Hid _ := hb
  have S1 : Hid (StrsAt w1 ha hd) := H1.out.below hb
  clear hown hb c0 c1
  go_wp2_with fail
  refine wp_loop_rounds 3 ?_
  rw [rounds_succ]
  go_wp2_with (at_builtin; go_must (refine wpList_append_fits_any _ rfl _ _ 22 rfl w.heap.size 9 i0 1 Try.underlying22 hi hz1 w.heap.size 0 cap [] rfl Hown.out ha hd.length hcap (hd.map Value.string) rfl (by simp) m1.out S1.out.cells (strs_oneCell hd) (by omega) ?_); intro w2 hown2 hgrow2)
  simp only [Nat.zero_add, List.nil_append] at hown2
  have Hown2 : Hid (w2.ownsRow w.heap.size 9 1 (.slice (some ⟨w.heap.size, 0, none⟩) hd.length cap) hd.length (hd.map Value.string)) := hown2
  have c1'' : w2.cell? ⟨q, 1, none⟩ = some (.slice oa op.length ocap) := by
    rw [World.cell?_of_block (w := w1) (a := ⟨q, 1, none⟩) (hgrow2.block q (by omega) (by simp; omega))]; exact c1'
  have B2 : Hid (Below w.heap.size w w2) := Hb.out.grown hgrow2 (by omega) (fun k hk => by cases hk; exact Nat.le_refl _)
  have S2 : Hid (StrsAt w2 oa op) := H2.out.below B2.out
  have z2 : w.heap.size < w2.heap.size := by have := hgrow2.size; omega
  clear hown2 hgrow2 c1' c0' S1 Hown HG H1
  rw [rounds_succ]
  go_wp2_with (at_builtin; go_must (refine wpList_append_fits_any _ rfl _ _ 22 rfl w.heap.size 9 i0 1 Try.underlying22 hi hz1 w.heap.size hd.length cap (hd.map Value.string) rfl Hown2.out oa op.length ocap (op.map Value.string) rfl (by simp) m2.out S2.out.cells (strs_oneCell op) (by omega) ?_); intro w3 hown3 hgrow3)
  have Hown3 : Hid (w3.ownsRow w.heap.size 9 1 (.slice (some ⟨w.heap.size, 0, none⟩) (hd.length + op.length) cap) (hd.length + op.length) (hd.map Value.string ++ op.map Value.string)) := hown3
  have B3 : Hid (Below w.heap.size w w3) := B2.out.grown hgrow3 (by omega) (fun k hk => by cases hk; exact Nat.le_refl _)
  clear hown3 hgrow3
  rw [rounds_succ]
  go_wp2
  go_ret
  refine ⟨some ⟨w.heap.size, 0, none⟩, cap, by rw [List.length_append]; rfl, strs_of_owns (base := w.heap.size) (cap := cap) ?_, B3.out⟩
  rw [List.length_append, List.map_append]
  exact Hown3.out

/-- slices.Concat of two slices, empty or not. -/
theorem concat_any (q : Nat) (ha oa : Option Addr) (hcap ocap : Nat) (hd op : List Str) (w : World) (hq : q < w.heap.size) (c0 : w.cell? ⟨q, 0, none⟩ = some (.slice ha hd.length hcap)) (c1 : w.cell? ⟨q, 1, none⟩ = some (.slice oa op.length ocap))
    (h1 : StrsAt w ha hd) (h2 : StrsAt w oa op) (n1 : ha = none → hcap = 0) (n2 : oa = none → ocap = 0) (hl1 : hd.length ≤ 65536) (hl2 : op.length ≤ 65536) :
    Calls Try.prog 26 #[.slice (some ⟨q, 0, none⟩) 2 2] w (ConcatPost w (hd ++ op)) := by
  by_cases hpos : 0 < hd.length + op.length
  · exact concat_some q ha oa hcap ocap hd op w hq c0 c1 h1 h2 n1 n2 hpos hl1 hl2
  · have e1 : hd = [] := List.eq_nil_of_length_eq_zero (by omega)
    have e2 : op = [] := List.eq_nil_of_length_eq_zero (by omega)
    subst e1 e2
    exact (concat_zero q ha oa hcap ocap w c0 c1).mono fun e w' ⟨h, h'⟩ => ⟨none, 0, h, .inl rfl, h' ▸ Below.refl _ _⟩
end Go.Proofs.Qxb6603151a
