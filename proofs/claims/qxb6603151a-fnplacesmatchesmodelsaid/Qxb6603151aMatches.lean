/-
  THE WALK of 'FnPlacesMatchesModel' (function 3): it returns true.
-/
import Derived.Test.Qxb6603151aModel
import Derived.Lib.SliceRun
namespace Go.Proofs.Qxb6603151a
open Go.RowKit

def MatchPost (w : World) (e : Ending) (w' : World) : Prop := e = .returned (.bool true) ∧ Below w.heap.size w w'

set_option maxRecDepth 100000 in
set_option maxHeartbeats 3200000 in
theorem matches_walk (ha oa aa na : Option Addr) (hcap ocap acap ncap : Nat) (hd op an nms : List Str) (w : World)
    (h1 : StrsAt w ha hd) (h2 : StrsAt w oa op) (h3 : StrsAt w aa an) (h4 : StrsAt w na nms)
    (x1 : hd.length ≤ 9223372036854775807) (x2 : op.length ≤ 9223372036854775807) (x3 : an.length ≤ 9223372036854775807) (x4 : nms.length ≤ 9223372036854775807) :
    Calls Try.prog 3 #[.slice ha hd.length hcap, .slice oa op.length ocap, .slice aa an.length acap, .slice na nms.length ncap] w (MatchPost w) := by
  have HB : Hid _ := bytes8 ha hcap hd oa ocap op aa acap an na ncap nms w h1 x1 h2 x2 h3 x3 h4 x4
  have H1 : Hid (StrsAt w ha hd) := h1
  have H2 : Hid (StrsAt w oa op) := h2
  have H3 : Hid (StrsAt w aa an) := h3
  have H4 : Hid (StrsAt w na nms) := h4
  clear h1 h2 h3 h4
  go_enter Try.func3, Try.ntmps3
  go_wp2_with fail
  refine Calls.mono HB.out ?_
  rintro e w' ⟨bb, rfl, rfl⟩
  clear HB
  cases bb
  · go_wp2
    go_ret
    exact ⟨rfl, Below.refl _ _⟩
  by_cases c1 : 65536 < hd.length
  · have c1' : (65536 : Int) < (hd.length : Int) := by omega
    go_wp2
    go_ret
    exact ⟨rfl, Below.refl _ _⟩
  by_cases c2 : 65536 < op.length
  · have c2' : (65536 : Int) < (op.length : Int) := by omega
    go_wp2
    go_ret
    exact ⟨rfl, Below.refl _ _⟩
  by_cases c3 : 4096 < an.length
  · have c3' : (4096 : Int) < (an.length : Int) := by omega
    go_wp2
    go_ret
    exact ⟨rfl, Below.refl _ _⟩
  by_cases c4 : 4096 < nms.length
  · have c4' : (4096 : Int) < (nms.length : Int) := by omega
    go_wp2
    go_ret
    exact ⟨rfl, Below.refl _ _⟩
  have d1 : decide ((65536 : Int) < (hd.length : Int)) = false := decide_eq_false (by omega)
  have d2 : decide ((65536 : Int) < (op.length : Int)) = false := decide_eq_false (by omega)
  have d3 : decide ((4096 : Int) < (an.length : Int)) = false := decide_eq_false (by omega)
  have d4 : decide ((4096 : Int) < (nms.length : Int)) = false := decide_eq_false (by omega)
  have s1 : Hid _ := strBytes_any ha hcap hd w H1.out (by omega)
  have s2 : Hid _ := strBytes_any oa ocap op w H2.out (by omega)
  have s3 : Hid _ := strBytes_any aa acap an w H3.out (by omega)
  have s4 : Hid _ := strBytes_any na ncap nms w H4.out (by omega)
  go_wp2_with fail
  refine Calls.mono s1.out ?_
  rintro e w' ⟨t1, rfl, rfl⟩
  go_wp2_with fail
  refine Calls.mono s2.out ?_
  rintro e w' ⟨t2, rfl, rfl⟩
  go_wp2_with fail
  refine Calls.mono s3.out ?_
  rintro e w' ⟨t3, rfl, rfl⟩
  go_wp2_with fail
  refine Calls.mono s4.out ?_
  rintro e w' ⟨t4, rfl, rfl⟩
  clear s1 s2 s3 s4
  by_cases cs : 1048576 < wrap64 (wrap64 (wrap64 (t1 + t2) + t3) + t4)
  · go_wp2
    go_ret
    exact ⟨rfl, Below.refl _ _⟩
  have ds : decide (1048576 < wrap64 (wrap64 (wrap64 (t1 + t2) + t3) + t4)) = false := decide_eq_false cs
  clear cs
  go_wp2_with fail
  refine Calls.mono (clone_any ha hd hcap w H1.out (by omega)) ?_
  rintro e w1 ⟨ha', hcap', rfl, q1, B1, nn1⟩
  have Q1 : Hid (StrsAt w1 ha' hd) := q1
  have BB1 : Hid (Below w.heap.size w w1) := B1
  have NN1 : Hid (ha' = none → hcap' = 0) := nn1
  clear q1 B1 nn1 ds
  go_wp2_with fail
  refine Calls.mono (clone_any oa op ocap w1 (H2.out.below BB1.out) (by omega)) ?_
  rintro e w2 ⟨oa', ocap', rfl, q2, B2, nn2⟩
  have Q2 : Hid (StrsAt w2 oa' op) := q2
  have Q1b : Hid (StrsAt w2 ha' hd) := Q1.out.below B2
  have BB2 : Hid (Below w.heap.size w w2) := BB1.out.trans (B2.mono BB1.out.size)
  have NN2 : Hid (oa' = none → ocap' = 0) := nn2
  clear q2 B2 nn2 Q1 BB1
  go_wp2_with fail
  refine Calls.mono (clone_any aa an acap w2 (H3.out.below BB2.out) (by omega)) ?_
  rintro e w3 ⟨aa', acap', rfl, q3, B3, _⟩
  have Q3 : Hid (StrsAt w3 aa' an) := q3
  have Q1c : Hid (StrsAt w3 ha' hd) := Q1b.out.below B3
  have Q2c : Hid (StrsAt w3 oa' op) := Q2.out.below B3
  have BB3 : Hid (Below w.heap.size w w3) := BB2.out.trans (B3.mono BB2.out.size)
  clear q3 B3 Q1b Q2 BB2
  go_wp2_with fail
  refine Calls.mono (clone_any na nms ncap w3 (H4.out.below BB3.out) (by omega)) ?_
  rintro e w4 ⟨na', ncap', rfl, q4, B4, _⟩
  have Q4 : Hid (StrsAt w4 na' nms) := q4
  have Q1d : Hid (StrsAt w4 ha' hd) := Q1c.out.below B4
  have Q2d : Hid (StrsAt w4 oa' op) := Q2c.out.below B4
  have Q3d : Hid (StrsAt w4 aa' an) := Q3.out.below B4
  have BB4 : Hid (Below w.heap.size w w4) := BB3.out.trans (B4.mono BB3.out.size)
  clear q4 B4 Q1c Q2c Q3 BB3 H1 H2 H3 H4
  have z1 : Hid _ := zz_any ha' oa' aa' na' hcap' ocap' acap' ncap' hd op an nms w4 Q1d.out Q2d.out Q3d.out Q4.out NN1.out NN2.out (by omega) (by omega) (by omega) (by omega)
  clear NN1 NN2
  go_wp2_with fail
  refine Calls.mono z1.out ?_
  rintro e w5 ⟨hb5, hp5⟩
  clear z1
  have z2 : Hid _ := model_any ha' oa' aa' na' hcap' ocap' acap' ncap' hd op an nms w5 (Q1d.out.below hb5) (Q2d.out.below hb5) (Q3d.out.below hb5) (Q4.out.below hb5) (by omega) (by omega) (by omega) (by omega)
  have BB5 : Hid (Below w.heap.size w w5) := BB4.out.trans (hb5.mono BB4.out.size)
  clear hb5 BB4 Q1d Q2d Q3d Q4
  obtain ⟨c, hcdef⟩ : ∃ c : Cols, c = ⟨an, hd ++ op, nms⟩ := ⟨_, rfl⟩
  rw [← hcdef] at z2 hp5
  have cn : c.names = nms := by rw [hcdef]
  clear hcdef
  rw [cn] at hp5
  rcases hp5 with ⟨hok, P, rfl, hP, hcl⟩ | ⟨hno, rfl⟩
  · have Hok : Hid (c.okTo nms.length) := hok
    have Hcl : Hid (∀ j, j < nms.length → w5.cell? ⟨P, j, none⟩ = some (.int .i64 (c.placeOf j))) := hcl
    clear hok hcl
    obtain ⟨okb, hrr⟩ : ∃ okb, decide (hd.length ≤ c.rest nms.length) = okb := ⟨_, rfl⟩
    have HRR : Hid (decide (hd.length ≤ c.rest nms.length) = okb) := hrr
    rw [hrr]
    clear hrr
    go_wp2_with fail
    refine Calls.mono z2.out ?_
    rintro e w6 ⟨hb6, hp6⟩
    have B6 : Hid (Below w5.heap.size w5 w6) := hb6
    clear hb6 z2
    rw [cn] at hp6
    rcases hp6 with ⟨_, Q, rfl, hQ, hcq⟩ | ⟨hno, _⟩
    · have Hcq : Hid (∀ j, j < nms.length → w6.cell? ⟨Q, j, none⟩ = some (.int .i64 (c.placeOf j))) := hcq
      clear hcq
      rw [HRR.out]
      have hnil := fun w => Lib.run_eql_slice_nil (P := Try.prog) w 26 3 (some ⟨P, 0, none⟩) nms.length nms.length 0 0 Try.underlying26
      have q1 : (okb != okb) = false := by simp
      have q2 : ((nms.length : Int) != (nms.length : Int)) = false := by simp
      go_wp2_with fail
      clear hnil
      go_loopw [14] (fun iv wr => ∃ i : Nat, i ≤ nms.length ∧ iv = .int .i64 (i : Int) ∧ Same w6 wr) (fun iv _ => nms.length - (intOf iv).toNat)
      case atStart => exact ⟨0, Nat.zero_le _, rfl, 0, rfl⟩
      case round =>
        obtain ⟨i, hi, rfl, hS⟩ := hrel
        have HS : Hid (Same w6 wr) := hS
        clear hS
        by_cases hil : i < nms.length
        · have rg : wr.cell? ⟨P, i, none⟩ = some (.int .i64 (c.placeOf i)) := by
            rw [HS.out.cell, B6.out.cell (p := ⟨P, i, none⟩) hP]; exact Hcl.out i hil
          have rq : wr.cell? ⟨Q, i, none⟩ = some (.int .i64 (c.placeOf i)) := by
            rw [HS.out.cell]; exact Hcq.out i hil
          have i0 : (0 : Int) ≤ (i : Int) := by omega
          have i1 : (i : Int) < (nms.length : Int) := by omega
          generalize c.placeOf i = v at *
          have e1 : (v != v) = false := by simp
          go_wp2_with fail
          go_quiet (fail)
          go_wp2_with fail
          go_roundw
          case rel => exact ⟨i + 1, by omega, by go_num, HS.out.drewN _⟩
          case measure => simp [intOf]; omega
        · go_wp2_with fail
          go_ret
          exact ⟨rfl, HS.out.below (BB5.out.trans (B6.out.mono BB5.out.size))⟩
    · exact absurd Hok.out hno
  · have Hno : Hid (¬ c.okTo nms.length) := hno
    clear hno
    go_wp2_with fail
    refine Calls.mono z2.out ?_
    rintro e w6 ⟨hb6, hp6⟩
    have B6 : Hid (Below w5.heap.size w5 w6) := hb6
    clear hb6 z2
    rw [cn] at hp6
    rcases hp6 with ⟨hok, _⟩ | ⟨_, rfl⟩
    · exact absurd hok Hno.out
    · have hnil := fun w => Lib.run_eql_slice_nil (P := Try.prog) w 26 3 none 0 0 0 0 Try.underlying26
      go_wp2_with fail
      go_ret
      exact ⟨rfl, BB5.out.trans (B6.out.mono BB5.out.size)⟩
end Go.Proofs.Qxb6603151a
