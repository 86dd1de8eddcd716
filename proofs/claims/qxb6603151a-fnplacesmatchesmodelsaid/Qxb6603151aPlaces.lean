/-
  '(Columns).places' (23) and 'ZZPlaces' (11).
-/
import Derived.Test.Qxb6603151aConcat
import Derived.Test.Qxb6603151aPlain
namespace Go.Proofs.Qxb6603151a
open Go.RowKit

/-- The two rows that 'places' makes behind w1: the places so far, the marks so far. -/
structure RowsAt (w1 wr : World) (c : Cols) (i : Nat) : Prop where
  cell : ∀ j, j < c.names.length → wr.cell? ⟨w1.heap.size, j, none⟩ = some (.int .i64 (c.out i j))
  frozen : ∀ j, wr.frozen? ⟨w1.heap.size, j, none⟩ = false
  mark : ∀ k, k < c.any.length → wr.cell? ⟨w1.heap.size + 1, k, none⟩ = some (.bool (c.tk i k))
  mfrozen : ∀ k, wr.frozen? ⟨w1.heap.size + 1, k, none⟩ = false
  below : Below w1.heap.size w1 wr
  size : w1.heap.size < wr.heap.size

def rowsStart (w1 : World) (c : Cols) : World := (w1.alloc (.cells (madeCells #[.int .i64 0] c.names.length) 3)).alloc (.cells (madeCells #[.bool false] c.any.length) 4)

theorem RowsAt.start (w1 : World) (c : Cols) : RowsAt w1 (rowsStart w1 c) c 0 := by
  refine ⟨fun j hj => ?_, fun j => ?_, fun k hk => ?_, fun k => ?_, ((Below.refl _ _).alloc (Nat.le_refl _) _).alloc (by simp) _, by simp [rowsStart]; omega⟩
  · rw [rowsStart, World.cell?_alloc_past _ _ _ (by simp), World.cell?_alloc_at _ _ _ _ rfl, ← Array.getElem?_toList, toList_madeCells_one, List.getElem?_replicate, if_pos hj]
    simp [Cols.out]
  · rw [rowsStart, World.frozen?_alloc_past _ _ _ (by simp), World.frozen?_alloc_at _ _ _ _ rfl]
  · rw [rowsStart, World.cell?_alloc_at _ _ _ _ (by simp), ← Array.getElem?_toList, toList_madeCells_one, List.getElem?_replicate, if_pos hk]
    simp [Cols.tk_zero]
  · rw [rowsStart, World.frozen?_alloc_at _ _ _ _ (by simp)]

/-- A column of 'any': its mark and its place. -/
theorem RowsAt.picked {w1 wr : World} {c : Cols} {i k : Nat} (h : RowsAt w1 wr c i) (hi : i < c.names.length) (hk : k < c.any.length) (hx : c.ix i = (k : Int)) (hp : c.pick i = true) :
    RowsAt w1 ((wr.setCell ⟨w1.heap.size + 1, k, none⟩ (.bool true)).setCell ⟨w1.heap.size, i, none⟩ (.int .i64 ((c.ord.length : Int) + k))) c (i + 1) := by
  refine ⟨fun j hj => ?_, fun j => ?_, fun j hj => ?_, fun j => ?_, (h.below.setCell (Nat.le_succ _) _).setCell (Nat.le_refl _) _, by simpa using h.size⟩
  · by_cases e : i = j
    · subst e
      rw [World.cell?_setCell_same _ _ _ (by rw [World.cell?_setCell_other _ _ _ _ (by simp)]; exact h.cell i hi), Cols.out_self, Cols.placeOf_pick hp, hx]
    · rw [World.cell?_setCell_other _ _ _ _ (fun c => e (by injection c)), World.cell?_setCell_other _ _ _ _ (by simp), h.cell j hj, Cols.out_other (fun c => e c.symm)]
  · rw [World.frozen?_setCell, World.frozen?_setCell]; exact h.frozen j
  · rw [World.cell?_setCell_other _ _ _ _ (by simp), Cols.tk_yes hx]
    by_cases e : k = j
    · subst e
      rw [World.cell?_setCell_same _ _ _ (h.mark k hk)]
      simp
    · rw [World.cell?_setCell_other _ _ _ _ (fun c => e (by injection c)), h.mark j hj, if_neg (fun c => e c.symm)]
  · rw [World.frozen?_setCell, World.frozen?_setCell]; exact h.mfrozen j

/-- An ordered column: its place. -/
theorem RowsAt.ordered {w1 wr : World} {c : Cols} {i : Nat} (h : RowsAt w1 wr c i) (hi : i < c.names.length) (hp : c.pick i = false) :
    RowsAt w1 (wr.setCell ⟨w1.heap.size, i, none⟩ (.int .i64 (c.rest i : Int))) c (i + 1) := by
  refine ⟨fun j hj => ?_, fun j => ?_, fun j hj => ?_, fun j => ?_, h.below.setCell (Nat.le_refl _) _, by simpa using h.size⟩
  · by_cases e : i = j
    · subst e
      rw [World.cell?_setCell_same _ _ _ (h.cell i hi), Cols.out_self, Cols.placeOf_no hp]
    · rw [World.cell?_setCell_other _ _ _ _ (fun c => e (by injection c)), h.cell j hj, Cols.out_other (fun c => e c.symm)]
  · rw [World.frozen?_setCell]; exact h.frozen j
  · rw [World.cell?_setCell_other _ _ _ _ (by simp), h.mark j hj, Cols.tk_no hp]
  · rw [World.frozen?_setCell]; exact h.mfrozen j

/-- What 'places' answers. -/
def PlacesPost (w : World) (c : Cols) (hn : Nat) (e : Ending) (w' : World) : Prop :=
  Below w.heap.size w w' ∧
  ((c.okTo c.names.length ∧ ∃ P, e = .returned (.tuple #[.slice (some ⟨P, 0, none⟩) c.names.length c.names.length, .bool (decide (hn ≤ c.rest c.names.length))]) ∧ P < w'.heap.size ∧
      ∀ j, j < c.names.length → w'.cell? ⟨P, j, none⟩ = some (.int .i64 (c.placeOf j))) ∨
   (¬ c.okTo c.names.length ∧ e = .returned (.tuple #[.slice none 0 0, .bool false])))

set_option maxRecDepth 100000 in
set_option maxHeartbeats 1600000 in
theorem places_any (ha oa aa na : Option Addr) (hcap ocap acap ncap : Nat) (hd op an nms : List Str) (w : World)
    (h1 : StrsAt w ha hd) (h2 : StrsAt w oa op) (h3 : StrsAt w aa an) (h4 : StrsAt w na nms) (n1 : ha = none → hcap = 0) (n2 : oa = none → ocap = 0)
    (l1 : hd.length ≤ 65536) (l2 : op.length ≤ 65536) (l3 : an.length ≤ 65536) (l4 : nms.length ≤ 65536) :
    Calls Try.prog 23 #[.agg #[.slice ha hd.length hcap, .slice oa op.length ocap, .slice aa an.length acap], .slice na nms.length ncap] w (PlacesPost w ⟨an, hd ++ op, nms⟩ hd.length) := by
  obtain ⟨c, hcdef⟩ : ∃ c : Cols, c = ⟨an, hd ++ op, nms⟩ := ⟨_, rfl⟩
  rw [← hcdef]
  have ca : Hid (c.any = an) := by show c.any = an; rw [hcdef]
  have co : Hid (c.ord = hd ++ op) := by show c.ord = hd ++ op; rw [hcdef]
  have cn : Hid (c.names = nms) := by show c.names = nms; rw [hcdef]
  have HR0 : Hid (∀ w1, RowsAt w1 ((w1.alloc (.cells (madeCells #[.int .i64 0] nms.length) 3)).alloc (.cells (madeCells #[.bool false] an.length) 4)) c 0) := fun w1 => by
    have := RowsAt.start w1 c
    unfold rowsStart at this
    rwa [ca.out, cn.out] at this
  clear hcdef
  have bb : Hid (Below w.heap.size w ((w.alloc (.cells #[.slice ha hd.length hcap, .slice oa op.length ocap, .slice aa an.length acap] 44)).alloc (.cells #[.slice ha hd.length hcap, .slice oa op.length ocap] 22))) :=
    ((Below.refl _ _).alloc (Nat.le_refl _) _).alloc (by simp) _
  have hc : Hid _ := concat_any (w.heap.size + 1) ha oa hcap ocap hd op ((w.alloc (.cells #[.slice ha hd.length hcap, .slice oa op.length ocap, .slice aa an.length acap] 44)).alloc (.cells #[.slice ha hd.length hcap, .slice oa op.length ocap] 22))
    (by simp) (by rw [World.cell?_alloc_at _ _ _ _ (by simp)]; rfl) (by rw [World.cell?_alloc_at _ _ _ _ (by simp)]; rfl) (h1.below bb.out) (h2.below bb.out) n1 n2 l1 l2
  have box : Hid (∀ w1, Below (w.heap.size + 2) ((w.alloc (.cells #[.slice ha hd.length hcap, .slice oa op.length ocap, .slice aa an.length acap] 44)).alloc (.cells #[.slice ha hd.length hcap, .slice oa op.length ocap] 22)) w1 →
      w1.cell? ⟨w.heap.size, 0, none⟩ = some (.slice ha hd.length hcap) ∧ w1.cell? ⟨w.heap.size, 2, none⟩ = some (.slice aa an.length acap)) := fun w1 hb => by
    constructor
    · rw [hb.cell (p := ⟨w.heap.size, 0, none⟩) (by simp), World.cell?_alloc_past _ _ _ (by simp), World.cell?_alloc_at _ _ _ _ rfl]; rfl
    · rw [hb.cell (p := ⟨w.heap.size, 2, none⟩) (by simp), World.cell?_alloc_past _ _ _ (by simp), World.cell?_alloc_at _ _ _ _ rfl]; rfl
  have H3 : Hid (StrsAt w aa an) := h3
  have H4 : Hid (StrsAt w na nms) := h4
  clear n1 n2 h1 h2 h3 h4
  have hmk1 := fun w => run_make_row' (P := Try.prog) 26 3 (.int .i64 0) 8 Try.underlying26 info3 rfl .i64 .i64 nms.length (by omega) (by omega) w
  have hmk2 := fun w => run_make_row' (P := Try.prog) 31 4 (.bool false) 1 Try.underlying31 info4 rfl .i64 .i64 an.length (by omega) (by omega) w
  go_enter Try.func23, Try.ntmps23
  go_wp2_with fail
  refine Calls.mono hc.out ?_
  rintro e w1 ⟨ao, cap', rfl, hso, hb1⟩
  have Hso : Hid (StrsAt w1 ao (hd ++ op)) := hso
  obtain ⟨c0, c2⟩ := box.out w1 (by simpa using hb1)
  have z1 : w.heap.size + 2 ≤ w1.heap.size := by have := hb1.size; simpa using this
  have z2 : w.heap.size < w1.heap.size := by omega
  have B1 : Hid (Below w.heap.size w w1) := bb.out.trans (hb1.mono (by simp; omega))
  have Hlo : Hid ((hd ++ op).length = hd.length + op.length) := List.length_append
  clear hc bb box hso hb1
  go_wp2_with fail
  clear hmk1 hmk2
  go_loopw [9, 28] (fun nv iv wr => ∃ i : Nat, i ≤ nms.length ∧ iv = .int .i64 (i : Int) ∧ nv = .int .i64 (c.rest i : Int) ∧ RowsAt w1 wr c i ∧ c.okTo i) (fun _ iv _ => nms.length - (intOf iv).toNat)
  case atStart => exact ⟨0, Nat.zero_le _, rfl, rfl, HR0.out w1, fun j hj => absurd hj (Nat.not_lt_zero _)⟩
  case round =>
    obtain ⟨i, hi, rfl, rfl, hR, hK⟩ := hrel
    have HR : Hid (RowsAt w1 wr c i) := hR
    have HK : Hid (c.okTo i) := hK
    clear hR hK
    have hc0 : wr.cell? ⟨w.heap.size, 0, none⟩ = some (.slice ha hd.length hcap) := by rw [HR.out.below.cell (p := ⟨w.heap.size, 0, none⟩) (by show w.heap.size < _; omega)]; exact c0
    have hc2 : wr.cell? ⟨w.heap.size, 2, none⟩ = some (.slice aa an.length acap) := by rw [HR.out.below.cell (p := ⟨w.heap.size, 2, none⟩) (by show w.heap.size < _; omega)]; exact c2
    have hri : c.rest i ≤ i := Cols.rest_le i
    by_cases hil : i < nms.length
    · have hNm := H4.out
      rcases hNm with hNm | ⟨nb, no, rfl, hnb, hnc⟩
      · subst hNm; simp at hil
      · have rs : wr.cell? ⟨nb, no + i, none⟩ = some (.string (nms.getD i ByteArray.empty)) := by
          rw [HR.out.below.cell (p := ⟨nb, no + i, none⟩) (by show nb < _; omega), B1.out.cell (p := ⟨nb, no + i, none⟩) hnb]; exact hnc i hil
        have Hs : Hid (c.nm i = nms.getD i ByteArray.empty) := by unfold Hid Cols.nm; rw [cn.out]
        have Hx : Hid (c.ix i = idx an (nms.getD i ByteArray.empty)) := by unfold Hid Cols.ix; rw [ca.out, Hs.out]
        have hcall : Hid _ := index_any aa acap an (nms.getD i ByteArray.empty) wr ((H3.out.below B1.out).below HR.out.below) l3
        have hbd := idx_bound an (nms.getD i ByteArray.empty)
        have hrle : c.rest i ≤ hd.length + op.length := by have := Cols.rest_le_ord HK.out; rw [co.out, Hlo.out] at this; exact this
        clear hnc
        generalize nms.getD i ByteArray.empty = s at *
        generalize idx an s = xi at *
        by_cases h0 : 0 ≤ xi
        · obtain ⟨k, rfl⟩ := Int.eq_ofNat_of_zero_le h0
          have hk : k < an.length := by omega
          have rm := HR.out.mark k (by rw [ca.out]; exact hk)
          have fm := HR.out.mfrozen k
          cases htk : c.tk i (k : Int) with
          | false =>
            rw [htk] at rm
            have hp : Hid (c.pick i = true) := Cols.pick_yes (by rw [Hx.out]; omega) (by rw [Hx.out]; exact htk)
            have hst : Hid _ := HR.out.picked (by rw [cn.out]; exact hil) (by rw [ca.out]; exact hk) Hx.out hp.out
            have rp := HR.out.cell i (by rw [cn.out]; exact hil)
            have fp := HR.out.frozen i
            have g1 : Hid (c.okTo (i + 1)) := Cols.okTo_succ HK.out (.inl hp.out)
            have g3 : Hid (c.rest (i + 1) = c.rest i) := Cols.rest_succ_pick hp.out
            have hlo2 : Hid ((c.ord.length : Int) = (hd.length : Int) + (op.length : Int)) := by unfold Hid; rw [co.out, Hlo.out]; omega
            rw [hlo2.out] at hst
            clear htk
            generalize c.rest i = r at *
            go_wp2_with fail
            refine Calls.mono hcall.out ?_
            rintro e w' ⟨rfl, rfl⟩
            go_wp2_with fail
            go_roundw
            case rel => exact ⟨i + 1, by omega, by go_num, by rw [g3.out], hst.out, g1.out⟩
            case measure => simp [intOf]; omega
          | true =>
            rw [htk] at rm
            have Hp : Hid (c.pick i = false) := Cols.pick_taken (by rw [Hx.out]; exact htk)
            have hst : Hid _ := HR.out.ordered (by rw [cn.out]; exact hil) Hp.out
            clear htk
            go_wp2_with fail
            refine Calls.mono hcall.out ?_
            rintro e w' ⟨rfl, rfl⟩
            by_cases hr : c.rest i = hd.length + op.length
            · have hno : Hid (¬ c.okTo c.names.length) := Cols.okTo_no (i := i) (by rw [cn.out]; exact hil) (fun h => by
                rcases h with h | ⟨h, _⟩
                · rw [Hp.out] at h; cases h
                · rw [co.out, Hlo.out] at h; omega)
              clear hst
              generalize c.rest i = r at *
              go_wp2_with fail
              go_ret2
              exact ⟨B1.out.trans (HR.out.below.mono (by omega)), .inr ⟨hno.out, rfl⟩⟩
            · have hrl : c.rest i < hd.length + op.length := by
                have : c.rest i ≤ hd.length + op.length := hrle
                omega
              have hSo := Hso.out
              rcases hSo with hSo | ⟨ob, oo, rfl, hob, hoc⟩
              · have := Hlo.out; rw [hSo] at this; simp at this; omega
              · have rO : wr.cell? ⟨ob, oo + c.rest i, none⟩ = some (.string ((hd ++ op).getD (c.rest i) ByteArray.empty)) := by
                  rw [HR.out.below.cell (p := ⟨ob, oo + c.rest i, none⟩) hob]; exact hoc _ (by rw [Hlo.out]; exact hrl)
                have hbad : Hid (s.toList ≠ ((hd ++ op).getD (c.rest i) ByteArray.empty).toList → ¬ c.okTo c.names.length) := fun hne => Cols.okTo_no (i := i) (by rw [cn.out]; exact hil) (fun h => by
                  rcases h with h | ⟨_, h⟩
                  · rw [Hp.out] at h; cases h
                  · rw [co.out, Hs.out] at h; exact hne h)
                have hgood : Hid (s.toList = ((hd ++ op).getD (c.rest i) ByteArray.empty).toList → c.okTo (i + 1)) := fun he => Cols.okTo_succ HK.out (.inr ⟨by rw [co.out, Hlo.out]; exact hrl, by rw [co.out, Hs.out]; exact he⟩)
                have hrest : Hid (c.rest (i + 1) = c.rest i + 1) := Cols.rest_succ_no Hp.out
                clear hoc
                generalize (hd ++ op).getD (c.rest i) ByteArray.empty = o at *
                by_cases he : s.toList = o.toList
                · have e1 : (ByteArray.toList s == ByteArray.toList o) = true := by simp [he]
                  have e2 : (ByteArray.toList s != ByteArray.toList o) = false := by simp [he]
                  have g1 : Hid _ := hgood.out he
                  have g2 : Hid _ := hst.out
                  have rp := HR.out.cell i (by rw [cn.out]; exact hil)
                  have fp := HR.out.frozen i
                  clear he hbad hgood hst
                  generalize c.rest i = r at *
                  go_wp2_with fail
                  go_roundw
                  case rel => exact ⟨i + 1, by omega, by go_num, by rw [hrest.out]; go_num, g2.out, g1.out⟩
                  case measure => simp [intOf]; omega
                · have e1 : (ByteArray.toList s == ByteArray.toList o) = false := by simp [he]
                  have e2 : (ByteArray.toList s != ByteArray.toList o) = true := by simp [he]
                  have hno : Hid _ := hbad.out he
                  clear he hbad hgood hst
                  generalize c.rest i = r at *
                  go_wp2_with fail
                  go_ret2
                  exact ⟨B1.out.trans (HR.out.below.mono (by omega)), .inr ⟨hno.out, rfl⟩⟩
        · have Hp : Hid (c.pick i = false) := Cols.pick_none (by rw [Hx.out]; exact h0)
          have hst : Hid _ := HR.out.ordered (by rw [cn.out]; exact hil) Hp.out
          go_wp2_with fail
          refine Calls.mono hcall.out ?_
          rintro e w' ⟨rfl, rfl⟩
          by_cases hr : c.rest i = hd.length + op.length
          · have hno : Hid (¬ c.okTo c.names.length) := Cols.okTo_no (i := i) (by rw [cn.out]; exact hil) (fun h => by
              rcases h with h | ⟨h, _⟩
              · rw [Hp.out] at h; cases h
              · rw [co.out, Hlo.out] at h; omega)
            clear hst
            generalize c.rest i = r at *
            go_wp2_with fail
            go_ret2
            exact ⟨B1.out.trans (HR.out.below.mono (by omega)), .inr ⟨hno.out, rfl⟩⟩
          · have hrl : c.rest i < hd.length + op.length := by
              have : c.rest i ≤ hd.length + op.length := hrle
              omega
            have hSo := Hso.out
            rcases hSo with hSo | ⟨ob, oo, rfl, hob, hoc⟩
            · have := Hlo.out; rw [hSo] at this; simp at this; omega
            · have rO : wr.cell? ⟨ob, oo + c.rest i, none⟩ = some (.string ((hd ++ op).getD (c.rest i) ByteArray.empty)) := by
                rw [HR.out.below.cell (p := ⟨ob, oo + c.rest i, none⟩) hob]; exact hoc _ (by rw [Hlo.out]; exact hrl)
              have hbad : Hid (s.toList ≠ ((hd ++ op).getD (c.rest i) ByteArray.empty).toList → ¬ c.okTo c.names.length) := fun hne => Cols.okTo_no (i := i) (by rw [cn.out]; exact hil) (fun h => by
                rcases h with h | ⟨_, h⟩
                · rw [Hp.out] at h; cases h
                · rw [co.out, Hs.out] at h; exact hne h)
              have hgood : Hid (s.toList = ((hd ++ op).getD (c.rest i) ByteArray.empty).toList → c.okTo (i + 1)) := fun he => Cols.okTo_succ HK.out (.inr ⟨by rw [co.out, Hlo.out]; exact hrl, by rw [co.out, Hs.out]; exact he⟩)
              have hrest : Hid (c.rest (i + 1) = c.rest i + 1) := Cols.rest_succ_no Hp.out
              clear hoc
              generalize (hd ++ op).getD (c.rest i) ByteArray.empty = o at *
              by_cases he : s.toList = o.toList
              · have e1 : (ByteArray.toList s == ByteArray.toList o) = true := by simp [he]
                have e2 : (ByteArray.toList s != ByteArray.toList o) = false := by simp [he]
                have g1 : Hid _ := hgood.out he
                have g2 : Hid _ := hst.out
                have rp := HR.out.cell i (by rw [cn.out]; exact hil)
                have fp := HR.out.frozen i
                clear he hbad hgood hst
                generalize c.rest i = r at *
                go_wp2_with fail
                go_roundw
                case rel => exact ⟨i + 1, by omega, by go_num, by rw [hrest.out]; go_num, g2.out, g1.out⟩
                case measure => simp [intOf]; omega
              · have e1 : (ByteArray.toList s == ByteArray.toList o) = false := by simp [he]
                have e2 : (ByteArray.toList s != ByteArray.toList o) = true := by simp [he]
                have hno : Hid _ := hbad.out he
                clear he hbad hgood hst
                generalize c.rest i = r at *
                go_wp2_with fail
                go_ret2
                exact ⟨B1.out.trans (HR.out.below.mono (by omega)), .inr ⟨hno.out, rfl⟩⟩
    · obtain rfl : i = nms.length := by omega
      go_wp2_with fail
      go_quiet (fail)
      go_wp2_with fail
      go_ret2
      refine ⟨below_drewN (B1.out.trans (HR.out.below.mono (by omega))) _, .inl ⟨?_, w1.heap.size, ?_, ?_, fun j hj => ?_⟩⟩
      · rw [cn.out]; exact HK.out
      · rw [cn.out]; rfl
      · exact HR.out.size
      · have := HR.out.cell j hj
        rw [cn.out] at hj
        rw [Cols.out, if_pos hj] at this
        exact this
end Go.Proofs.Qxb6603151a
