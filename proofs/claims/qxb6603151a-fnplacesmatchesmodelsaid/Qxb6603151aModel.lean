/-
  'zzPlacesModel' (12).
-/
import Derived.Test.Qxb6603151aFirst
namespace Go.Proofs.Qxb6603151a
open Go.RowKit

/-- What 'zzPlacesModel' answers. -/
def ModelPost (w : World) (c : Cols) (hn : Nat) (e : Ending) (w' : World) : Prop :=
  Below w.heap.size w w' ∧
  ((c.okTo c.names.length ∧ ∃ P, e = .returned (.tuple #[.slice (some ⟨P, 0, none⟩) c.names.length c.names.length, .bool (decide (hn ≤ c.rest c.names.length)), .bool false]) ∧ P < w'.heap.size ∧
      ∀ j, j < c.names.length → w'.cell? ⟨P, j, none⟩ = some (.int .i64 (c.placeOf j))) ∨
   (¬ c.okTo c.names.length ∧ e = .returned (.tuple #[.slice none 0 0, .bool false, .bool true])))

theorem StrsAt.name {w : World} {na : Option Addr} {nms : List Str} (h : StrsAt w na nms) {i : Nat} (hi : i < nms.length) :
    ∃ nb no, na = some ⟨nb, no, none⟩ ∧ nb < w.heap.size ∧ w.cell? ⟨nb, no + i, none⟩ = some (.string (nms.getD i ByteArray.empty)) := by
  rcases h with h | ⟨nb, no, h1, h2, h3⟩
  · subst h; simp at hi
  · exact ⟨nb, no, h1, h2, h3 i hi⟩

/-- w2 is w but for its draws. -/
def Same (w w2 : World) : Prop := ∃ d, w2 = w.drewN d
theorem Same.cell {w w2 : World} (h : Same w w2) (p : Addr) : w2.cell? p = w.cell? p := by
  obtain ⟨d, rfl⟩ := h
  simp
theorem Same.below {w w2 : World} {B : Nat} {w0 : World} (h : Same w w2) (k : Below B w0 w) : Below B w0 w2 := by
  obtain ⟨d, rfl⟩ := h
  exact below_drewN k d
theorem Same.drewN {w w2 : World} (h : Same w w2) (n : Nat) : Same w (w2.drewN n) := by
  obtain ⟨d, rfl⟩ := h
  exact ⟨d + n, by rw [World.drewN_drewN]⟩
theorem Same.size {w w2 : World} (h : Same w w2) : w2.heap.size = w.heap.size := by
  obtain ⟨d, rfl⟩ := h
  simp

set_option maxRecDepth 100000 in
set_option maxHeartbeats 3200000 in
theorem model_any (ha oa aa na : Option Addr) (hcap ocap acap ncap : Nat) (hd op an nms : List Str) (w : World)
    (h1 : StrsAt w ha hd) (h2 : StrsAt w oa op) (h3 : StrsAt w aa an) (h4 : StrsAt w na nms)
    (l1 : hd.length ≤ 65536) (l2 : op.length ≤ 65536) (l3 : an.length ≤ 65536) (l4 : nms.length ≤ 65536) :
    Calls Try.prog 12 #[.slice ha hd.length hcap, .slice oa op.length ocap, .slice aa an.length acap, .slice na nms.length ncap] w (ModelPost w ⟨an, hd ++ op, nms⟩ hd.length) := by
  obtain ⟨c, hcdef⟩ : ∃ c : Cols, c = ⟨an, hd ++ op, nms⟩ := ⟨_, rfl⟩
  rw [← hcdef]
  have ca : Hid (c.any = an) := by show c.any = an; rw [hcdef]
  have co : Hid (c.ord = hd ++ op) := by show c.ord = hd ++ op; rw [hcdef]
  have cn : Hid (c.names = nms) := by show c.names = nms; rw [hcdef]
  clear hcdef
  have Hlo : Hid ((hd ++ op).length = hd.length + op.length) := List.length_append
  have H1 : Hid (StrsAt w ha hd) := h1
  have H2 : Hid (StrsAt w oa op) := h2
  have H3 : Hid (StrsAt w aa an) := h3
  have H4 : Hid (StrsAt w na nms) := h4
  clear h1 h2 h3 h4
  have hmk1 := fun w => run_make_row' (P := Try.prog) 31 4 (.bool false) 1 Try.underlying31 info4 rfl .i64 .i64 nms.length (by omega) (by omega) w
  have hmk2 : Hid (∀ w, _) := fun w => run_make_row' (P := Try.prog) 26 3 (.int .i64 0) 8 Try.underlying26 info3 rfl .i64 .i64 nms.length (by omega) (by omega) w
  have HR0 : Hid (RowF w (w.alloc (.cells (madeCells #[.bool false] nms.length) 4)) nms.length (pkv c 0)) := RowF.start w nms.length (.bool false) 4 (fun j _ => by simp [pkv])
  go_enter Try.func12, Try.ntmps12
  go_wp2_with fail
  clear hmk1
  go_loopw [13, 14] (fun rv iv wr => ∃ i : Nat, i ≤ nms.length ∧ iv = .int .i64 (i : Int) ∧ rv = .int .i64 (c.rest i : Int) ∧ RowF w wr nms.length (pkv c i)) (fun _ iv _ => nms.length - (intOf iv).toNat)
  case atStart => exact ⟨0, Nat.zero_le _, rfl, rfl, HR0.out⟩
  case round =>
    obtain ⟨i, hi, rfl, rfl, hR⟩ := hrel
    have HR : Hid (RowF w wr nms.length (pkv c i)) := hR
    clear hR HR0
    have hri : c.rest i ≤ i := Cols.rest_le i
    by_cases hil : i < nms.length
    · obtain ⟨nb, no, rfl, hnb, rs0⟩ := H4.out.name hil
      have rs : wr.cell? ⟨nb, no + i, none⟩ = some (.string (nms.getD i ByteArray.empty)) := by
        rw [HR.out.below.cell (p := ⟨nb, no + i, none⟩) (by show nb < _; omega)]; exact rs0
      have Hs : Hid (c.nm i = nms.getD i ByteArray.empty) := by unfold Hid Cols.nm; rw [cn.out]
      have Hx : Hid (c.ix i = idx an (nms.getD i ByteArray.empty)) := by unfold Hid Cols.ix; rw [ca.out, Hs.out]
      have hcall : Hid _ := indexOf_any aa acap an (nms.getD i ByteArray.empty) wr (H3.out.below HR.out.below) l3
      have hcall2 : Hid (Calls Try.prog 24 #[.slice (some ⟨nb, no, none⟩) nms.length ncap, .int .i64 (i : Int)] wr (FirstPost wr nms i)) := first_any (some ⟨nb, no, none⟩) ncap nms i wr (H4.out.below HR.out.below) l4 hil
      have hfirst : Hid (0 ≤ c.ix i → (c.pick i = true ↔ NoneTo nms (nms.getD i ByteArray.empty) i)) := fun h => by
        have := Cols.pick_model h
        rwa [cn.out, Hs.out] at this
      clear rs0
      have rp := HR.out.cell i hil
      have fp := HR.out.frozen i
      have hno : Hid (¬ 0 ≤ idx an (nms.getD i ByteArray.empty) → c.pick i = false) := fun h => Cols.pick_none (by rw [Hx.out]; exact h)
      have hyes : Hid (0 ≤ idx an (nms.getD i ByteArray.empty) → 0 ≤ c.ix i) := fun h => by rw [Hx.out]; exact h
      have hbd := idx_bound an (nms.getD i ByteArray.empty)
      clear Hs Hx
      by_cases h0 : 0 ≤ idx an (nms.getD i ByteArray.empty)
      · have hF : Hid _ := hfirst.out (hyes.out h0)
        clear hno hyes hfirst
        generalize idx an (nms.getD i ByteArray.empty) = xi at *
        generalize hsd : nms.getD i ByteArray.empty = s at *
        go_wp2_with fail
        refine Calls.mono hcall.out ?_
        rintro e w' ⟨rfl, rfl⟩
        go_wp2_with fail
        refine Calls.mono hcall2.out ?_
        rintro e w' ⟨b, rfl, hb, n, rfl⟩
        have hpb : Hid (c.pick i = b) := by
          unfold Hid
          rw [hsd] at hb
          have := hF.out.trans hb.symm
          cases b <;> cases hp : c.pick i <;> simp_all
        have hst : Hid (RowF w ((wr.drewN n).setCell ⟨w.heap.size, i, none⟩ (.bool b)) nms.length (pkv c (i + 1))) := (HR.out.drewN n).set hil (by rw [pkv_self, hpb.out]) (fun j hj => pkv_other c hj)
        have r2 : ((wr.drewN n).setCell ⟨w.heap.size, i, none⟩ (.bool b)).cell? ⟨w.heap.size, i, none⟩ = some (.bool b) := by
          rw [hst.out.cell i hil, pkv_self, hpb.out]
        clear hb hF hcall hcall2
        cases b
        · have hre : Hid (c.rest (i + 1) = c.rest i + 1) := Cols.rest_succ_no hpb.out
          generalize c.rest i = r at *
          go_wp2_with fail
          go_roundw
          case rel => exact ⟨i + 1, by omega, by go_num, by rw [hre.out]; go_num, hst.out⟩
          case measure => simp [intOf]; omega
        · have hre : Hid (c.rest (i + 1) = c.rest i) := Cols.rest_succ_pick hpb.out
          generalize c.rest i = r at *
          go_wp2_with fail
          go_roundw
          case rel => exact ⟨i + 1, by omega, by go_num, by rw [hre.out], hst.out⟩
          case measure => simp [intOf]; omega
      · have hpb : Hid (c.pick i = false) := hno.out h0
        clear hno hyes hfirst hcall2
        generalize idx an (nms.getD i ByteArray.empty) = xi at *
        generalize hsd : nms.getD i ByteArray.empty = s at *
        have hst : Hid (RowF w (wr.setCell ⟨w.heap.size, i, none⟩ (.bool false)) nms.length (pkv c (i + 1))) := HR.out.set hil (by rw [pkv_self, hpb.out]) (fun j hj => pkv_other c hj)
        have r2 : (wr.setCell ⟨w.heap.size, i, none⟩ (.bool false)).cell? ⟨w.heap.size, i, none⟩ = some (.bool false) := by
          rw [hst.out.cell i hil, pkv_self, hpb.out]
        have hre : Hid (c.rest (i + 1) = c.rest i + 1) := Cols.rest_succ_no hpb.out
        have hd0 : decide (0 ≤ xi) = false := decide_eq_false h0
        generalize c.rest i = r at *
        go_wp2_with fail
        refine Calls.mono hcall.out ?_
        rintro e w' ⟨rfl, rfl⟩
        go_wp2_with fail
        go_roundw
        case rel => exact ⟨i + 1, by omega, by go_num, by rw [hre.out]; go_num, hst.out⟩
        case measure => simp [intOf]; omega
    · obtain rfl : i = nms.length := by omega
      clear hil hi
      obtain ⟨w1, rfl⟩ : ∃ w1, w1 = wr := ⟨_, rfl⟩
      have HP : Hid (∀ j, j < nms.length → w1.cell? ⟨w.heap.size, j, none⟩ = some (.bool (c.pick j))) := fun j hj => by rw [HR.out.cell j hj, pkv_end c hj]
      have B : Hid (Below w.heap.size w w1) := HR.out.below
      have hsz : w.heap.size < w1.heap.size := HR.out.size
      clear HR
      by_cases hr : hd.length + op.length < c.rest nms.length
      · have hno : Hid (¬ c.okTo c.names.length) := fun h => by
          have := Cols.rest_le_ord h
          rw [co.out, Hlo.out, cn.out] at this
          omega
        have hr' : (hd.length : Int) + (op.length : Int) < (c.rest nms.length : Int) := by omega
        go_wp2_with fail
        go_ret3
        exact ⟨B.out, .inr ⟨hno.out, rfl⟩⟩
      have hr' : decide ((hd.length : Int) + (op.length : Int) < (c.rest nms.length : Int)) = false := decide_eq_false (by omega)
      have hrl : c.rest nms.length ≤ hd.length + op.length := by omega
      clear hr
      have hrest : Hid (∀ i, i < nms.length → c.pick i = false → c.rest i < hd.length + op.length) := fun i hi hp => by
        have a1 := Cols.rest_succ_no hp
        have a2 := Cols.rest_mono (c := c) (i := i + 1) (j := nms.length) (by omega)
        omega
      generalize hRN : c.rest nms.length = rN at *
      have HRN : Hid (c.rest nms.length = rN) := hRN
      clear hRN
      go_wp2_with fail
      go_loopw [15, 16] (fun jv iv wr => ∃ i : Nat, i ≤ nms.length ∧ iv = .int .i64 (i : Int) ∧ jv = .int .i64 (c.rest i : Int) ∧ Same w1 wr ∧ c.okTo i) (fun _ iv _ => nms.length - (intOf iv).toNat)
      case atStart => exact ⟨0, Nat.zero_le _, rfl, rfl, ⟨0, rfl⟩, fun j hj => absurd hj (Nat.not_lt_zero _)⟩
      case round =>
        obtain ⟨i, hi, rfl, rfl, hS, hK⟩ := hrel
        have HS : Hid (Same w1 wr) := hS
        clear hS
        have HK : Hid (c.okTo i) := hK
        clear hK
        have hri2 : c.rest i ≤ i := Cols.rest_le i
        by_cases hil : i < nms.length
        · have rp : wr.cell? ⟨w.heap.size, i, none⟩ = some (.bool (c.pick i)) := by rw [HS.out.cell]; exact HP.out i hil
          cases hpk : c.pick i with
          | true =>
            rw [hpk] at rp
            have g1 : Hid (c.okTo (i + 1)) := Cols.okTo_succ HK.out (.inl hpk)
            have g3 : Hid (c.rest (i + 1) = c.rest i) := Cols.rest_succ_pick hpk
            generalize c.rest i = r at *
            go_wp2_with fail
            go_roundw
            case rel => exact ⟨i + 1, by omega, by go_num, by rw [g3.out], HS.out, g1.out⟩
            case measure => simp [intOf]; omega
          | false =>
            rw [hpk] at rp
            obtain ⟨nb, no, rfl, hnb, rs0⟩ := H4.out.name hil
            have rs : wr.cell? ⟨nb, no + i, none⟩ = some (.string (nms.getD i ByteArray.empty)) := by
              rw [HS.out.cell, B.out.cell (p := ⟨nb, no + i, none⟩) hnb]; exact rs0
            have hlt := hrest.out i hil hpk
            have hcall : Hid (∀ n, Calls Try.prog 14 #[.slice ha hd.length hcap, .slice oa op.length ocap, .int .i64 (c.rest i : Int)] (wr.drewN n) fun e w' => e = .returned (.string ((hd ++ op).getD (c.rest i) ByteArray.empty)) ∧ w' = wr.drewN n) :=
              fun n => (ordered_any ha oa hcap ocap hd op (c.rest i) (wr.drewN n) (H1.out.below (below_drewN (HS.out.below B.out) n)) (H2.out.below (below_drewN (HS.out.below B.out) n)) hlt (by omega)).mono fun e w' h => ⟨h.1, h.2.symm⟩
            have Hs : Hid (c.nm i = nms.getD i ByteArray.empty) := by unfold Hid Cols.nm; rw [cn.out]
            have hbad : Hid ((nms.getD i ByteArray.empty).toList ≠ ((hd ++ op).getD (c.rest i) ByteArray.empty).toList → ¬ c.okTo c.names.length) := fun hne => Cols.okTo_no (i := i) (by rw [cn.out]; exact hil) (fun h => by
              rcases h with h | ⟨_, h⟩
              · rw [hpk] at h; cases h
              · rw [co.out, Hs.out] at h; exact hne h)
            have hgood : Hid ((nms.getD i ByteArray.empty).toList = ((hd ++ op).getD (c.rest i) ByteArray.empty).toList → c.okTo (i + 1)) := fun he => Cols.okTo_succ HK.out (.inr ⟨by rw [co.out, Hlo.out]; exact hlt, by rw [co.out, Hs.out]; exact he⟩)
            have g3 : Hid (c.rest (i + 1) = c.rest i + 1) := Cols.rest_succ_no hpk
            clear Hs rs0 hpk
            generalize (hd ++ op).getD (c.rest i) ByteArray.empty = o at *
            generalize nms.getD i ByteArray.empty = s at *
            generalize c.rest i = r at *
            have i0 : (0 : Int) ≤ (i : Int) := by omega
            have i1 : (i : Int) < (nms.length : Int) := by omega
            by_cases he : s.toList = o.toList
            · have e2 : (ByteArray.toList s != ByteArray.toList o) = false := by simp [he]
              have e1 : (ByteArray.toList s == ByteArray.toList o) = true := by simp [he]
              have g1 : Hid _ := hgood.out he
              clear he hbad hgood
              go_wp2_with fail
              go_quiet ((go_at_call 14; exact Calls.quiet_of_same (hcall.out _)))
              go_wp2_with fail
              go_roundw
              case rel => exact ⟨i + 1, by omega, by go_num, by rw [g3.out]; go_num, HS.out.drewN _, g1.out⟩
              case measure => simp [intOf]; omega
            · have e2 : (ByteArray.toList s != ByteArray.toList o) = true := by simp [he]
              have e1 : (ByteArray.toList s == ByteArray.toList o) = false := by simp [he]
              have g1 : Hid _ := hbad.out he
              clear he hbad hgood
              go_wp2_with fail
              go_quiet ((go_at_call 14; exact Calls.quiet_of_same (hcall.out _)))
              go_wp2_with fail
              go_ret3
              exact ⟨below_drewN (HS.out.below B.out) _, .inr ⟨g1.out, rfl⟩⟩
        · obtain rfl : i = nms.length := by omega
          clear hil hi
          obtain ⟨w2, rfl⟩ : ∃ w2, w2 = wr := ⟨_, rfl⟩
          have HP2 : Hid (∀ j, j < nms.length → w2.cell? ⟨w.heap.size, j, none⟩ = some (.bool (c.pick j))) := fun j hj => by rw [HS.out.cell]; exact HP.out j hj
          have B2 : Hid (Below w.heap.size w w2) := HS.out.below B.out
          have hsz2 : w.heap.size < w2.heap.size := by rw [HS.out.size]; exact hsz
          clear HP HS B hsz
          have HR0 : Hid (RowF w2 (w2.alloc (.cells (madeCells #[.int .i64 0] nms.length) 3)) nms.length (outv c 0)) := RowF.start w2 nms.length (.int .i64 0) 3 (fun j _ => by simp [outv, Cols.out])
          have hmk := hmk2.out
          clear hmk2
          go_wp2_with fail
          clear hmk
          go_loopw [15, 18] (fun jv iv wr => ∃ i : Nat, i ≤ nms.length ∧ iv = .int .i64 (i : Int) ∧ jv = .int .i64 (c.rest i : Int) ∧ RowF w2 wr nms.length (outv c i)) (fun _ iv _ => nms.length - (intOf iv).toNat)
          case atStart => exact ⟨0, Nat.zero_le _, rfl, rfl, HR0.out⟩
          case round =>
            obtain ⟨i, hi, rfl, rfl, hR⟩ := hrel
            have HR : Hid (RowF w2 wr nms.length (outv c i)) := hR
            clear hR HR0
            have hri3 : c.rest i ≤ i := Cols.rest_le i
            by_cases hil : i < nms.length
            · have rp : wr.cell? ⟨w.heap.size, i, none⟩ = some (.bool (c.pick i)) := by
                rw [HR.out.below.cell (p := ⟨w.heap.size, i, none⟩) hsz2]; exact HP2.out i hil
              have rq := HR.out.cell i hil
              have fq := HR.out.frozen i
              cases hpk : c.pick i with
              | true =>
                rw [hpk] at rp
                obtain ⟨nb, no, rfl, hnb, rs0⟩ := H4.out.name hil
                have rs : wr.cell? ⟨nb, no + i, none⟩ = some (.string (nms.getD i ByteArray.empty)) := by
                  rw [HR.out.below.cell (p := ⟨nb, no + i, none⟩) (by show nb < _; omega), B2.out.cell (p := ⟨nb, no + i, none⟩) hnb]; exact rs0
                have hcall : Hid _ := indexOf_any aa acap an (nms.getD i ByteArray.empty) wr ((H3.out.below B2.out).below HR.out.below) l3
                have hst : Hid (RowF w2 (wr.setCell ⟨w2.heap.size, i, none⟩ (.int .i64 ((hd.length : Int) + (op.length : Int) + idx an (nms.getD i ByteArray.empty)))) nms.length (outv c (i + 1))) :=
                  HR.out.set hil (by
                    have Hs : c.nm i = nms.getD i ByteArray.empty := by unfold Cols.nm; rw [cn.out]
                    have hx : c.ix i = idx an (nms.getD i ByteArray.empty) := by unfold Cols.ix; rw [ca.out, Hs]
                    rw [outv_self, Cols.placeOf_pick hpk, hx, co.out, Hlo.out, Int.natCast_add]) (fun j hj => outv_other c hj)
                have g3 : Hid (c.rest (i + 1) = c.rest i) := Cols.rest_succ_pick hpk
                have hbd := idx_bound an (nms.getD i ByteArray.empty)
                clear rs0 hpk
                generalize idx an (nms.getD i ByteArray.empty) = xi at *
                generalize nms.getD i ByteArray.empty = s at *
                generalize c.rest i = r at *
                go_wp2_with fail
                refine Calls.mono hcall.out ?_
                rintro e w' ⟨rfl, rfl⟩
                go_wp2_with fail
                go_roundw
                case rel => exact ⟨i + 1, by omega, by go_num, by rw [g3.out], hst.out⟩
                case measure => simp [intOf]; omega
              | false =>
                rw [hpk] at rp
                have hst : Hid (RowF w2 (wr.setCell ⟨w2.heap.size, i, none⟩ (.int .i64 (c.rest i : Int))) nms.length (outv c (i + 1))) :=
                  HR.out.set hil (by rw [outv_self, Cols.placeOf_no hpk]) (fun j hj => outv_other c hj)
                have g3 : Hid (c.rest (i + 1) = c.rest i + 1) := Cols.rest_succ_no hpk
                generalize c.rest i = r at *
                go_wp2_with fail
                go_roundw
                case rel => exact ⟨i + 1, by omega, by go_num, by rw [g3.out]; go_num, hst.out⟩
                case measure => simp [intOf]; omega
            · obtain rfl : i = nms.length := by omega
              go_wp2_with fail
              go_ret3
              refine ⟨B2.out.trans (HR.out.below.mono (by omega)), .inl ⟨?_, w2.heap.size, ?_, HR.out.size, fun j hj => ?_⟩⟩
              · rw [cn.out]; exact HK.out
              · rw [cn.out, HRN.out]
                simp
              · rw [cn.out] at hj
                rw [HR.out.cell j hj, outv_end c hj]
end Go.Proofs.Qxb6603151a
