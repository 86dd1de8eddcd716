/-
  THE WALK of 'FnPlacesAcceptsHeaderThenOptional' (function 5), no column is put in (k negative).
-/
import Derived.Test.Qxb6603151aAccBase
namespace Go.Proofs.Qxb6603151a
open Go.RowKit

set_option maxRecDepth 100000 in
set_option maxHeartbeats 3200000 in
theorem accepts_neg (ha oa aa : Option Addr) (hcap ocap acap : Nat) (hd op an : List Str) (m at_ k : Int) (w : World)
    (h1 : StrsAt w ha hd) (h2 : StrsAt w oa op) (h3 : StrsAt w aa an)
    (x1 : hd.length ≤ 9223372036854775807) (x2 : op.length ≤ 9223372036854775807) (x3 : an.length ≤ 9223372036854775807)
    (wm : -9223372036854775808 ≤ m ∧ m ≤ 9223372036854775807) (hk0 : k < 0) :
    Calls Try.prog 5 #[.slice ha hd.length hcap, .slice oa op.length ocap, .slice aa an.length acap, .int .i64 m, .int .i64 at_, .int .i64 k] w (TruePost w) := by
  have HB : Hid _ := bytes15 ha hcap hd oa ocap op aa acap an m at_ k w h1 x1 h2 x2 h3 x3
  have H1 : Hid (StrsAt w ha hd) := h1
  have H2 : Hid (StrsAt w oa op) := h2
  have H3 : Hid (StrsAt w aa an) := h3
  clear h1 h2 h3
  go_enter Try.func5, Try.ntmps5
  go_wp2_with fail
  refine Calls.mono HB.out ?_
  rintro e w' ⟨bb, rfl, rfl⟩
  clear HB
  cases bb
  · go_wp2
    go_ret
    exact ⟨rfl, Below.refl _ _⟩
  by_cases c1 : 4096 < hd.length
  · have c1' : (4096 : Int) < (hd.length : Int) := by omega
    go_wp2
    go_ret
    exact ⟨rfl, Below.refl _ _⟩
  by_cases c2 : 4096 < op.length
  · have c2' : (4096 : Int) < (op.length : Int) := by omega
    go_wp2
    go_ret
    exact ⟨rfl, Below.refl _ _⟩
  by_cases c3 : 4096 < an.length
  · have c3' : (4096 : Int) < (an.length : Int) := by omega
    go_wp2
    go_ret
    exact ⟨rfl, Below.refl _ _⟩
  have d1 : decide ((4096 : Int) < (hd.length : Int)) = false := decide_eq_false (by omega)
  have d2 : decide ((4096 : Int) < (op.length : Int)) = false := decide_eq_false (by omega)
  have d3 : decide ((4096 : Int) < (an.length : Int)) = false := decide_eq_false (by omega)
  have s1 : Hid _ := strBytes_any ha hcap hd w H1.out (by omega)
  have s2 : Hid _ := strBytes_any oa ocap op w H2.out (by omega)
  have s3 : Hid _ := strBytes_any aa acap an w H3.out (by omega)
  go_wp2_with fail
  refine Calls.mono s1.out ?_
  rintro e w' ⟨t1, rfl, rfl⟩
  go_wp2_with fail
  refine Calls.mono s2.out ?_
  rintro e w' ⟨t2, rfl, rfl⟩
  go_wp2_with fail
  refine Calls.mono s3.out ?_
  rintro e w' ⟨t3, rfl, rfl⟩
  clear s1 s2 s3
  by_cases cs : 1048576 < wrap64 (wrap64 (t1 + t2) + t3)
  · go_wp2
    go_ret
    exact ⟨rfl, Below.refl _ _⟩
  have ds : decide (1048576 < wrap64 (wrap64 (t1 + t2) + t3)) = false := decide_eq_false cs
  clear cs
  by_cases c4 : m < 0
  · go_wp2
    go_ret
    exact ⟨rfl, Below.refl _ _⟩
  by_cases c5 : (op.length : Int) < m
  · go_wp2
    go_ret
    exact ⟨rfl, Below.refl _ _⟩
  by_cases c6 : at_ < 0
  · go_wp2
    go_ret
    exact ⟨rfl, Below.refl _ _⟩
  by_cases c7 : (hd.length : Int) + m < at_
  · go_wp2
    go_ret
    exact ⟨rfl, Below.refl _ _⟩
  by_cases c8 : k < -1
  · go_wp2
    go_ret
    exact ⟨rfl, Below.refl _ _⟩
  obtain ⟨M, rfl⟩ := Int.eq_ofNat_of_zero_le (show 0 ≤ m by omega)
  obtain ⟨a, rfl⟩ := Int.eq_ofNat_of_zero_le (show 0 ≤ at_ by omega)
  have b1 : M ≤ op.length := by omega
  have b2 : a ≤ hd.length + M := by omega
  have d4 : decide ((M : Int) < 0) = false := decide_eq_false (by omega)
  have d5 : decide ((op.length : Int) < (M : Int)) = false := decide_eq_false (by omega)
  have d6 : decide ((a : Int) < 0) = false := decide_eq_false (by omega)
  have d7 : decide ((hd.length : Int) + (M : Int) < (a : Int)) = false := decide_eq_false (by omega)
  have d8 : decide (k < -1) = false := decide_eq_false (by omega)
  have d9 : decide ((an.length : Int) ≤ k) = false := decide_eq_false (by omega)
  clear c4 c5 c6 c7
  have d5' : decide (op.length < M) = false := decide_eq_false (by omega)
  obtain rfl : k = -1 := by omega
  clear c8 hk0
  have hno1 : Hid (∀ p, p < hd.length + M → p < hd.length + op.length) := fun p hp => by omega
  go_wp2_with fail
  go_loop [14] (fun iv => ∃ p : Nat, p ≤ hd.length + M ∧ iv = .int .i64 (p : Int) ∧ NotIn an (hd ++ op) p) (fun iv => hd.length + M - (intOf iv).toNat)
  case atStart => exact ⟨0, Nat.zero_le _, rfl, fun q hq => absurd hq (Nat.not_lt_zero _)⟩
  case round =>
    obtain ⟨p, hp, rfl, hni⟩ := hrel
    have HNI : Hid (NotIn an (hd ++ op) p) := hni
    clear hni
    by_cases hlt : p < hd.length + M
    · have o1 : Hid _ := ordered_any ha oa hcap ocap hd op p w H1.out H2.out (by omega) (by omega)
      have o2 : Hid _ := indexOf_any aa acap an ((hd ++ op).getD p ByteArray.empty) w H3.out (by omega)
      have hst : Hid (idx an ((hd ++ op).getD p ByteArray.empty) < 0 → NotIn an (hd ++ op) (p + 1)) := fun h => HNI.out.step h
      generalize (hd ++ op).getD p ByteArray.empty = s at *
      generalize idx an s = xi at *
      go_wp2_with fail
      refine Calls.mono o1.out ?_
      rintro e w' ⟨rfl, rfl⟩
      go_wp2_with fail
      refine Calls.mono o2.out ?_
      rintro e w' ⟨rfl, rfl⟩
      by_cases h0 : 0 ≤ xi
      · go_wp2_with fail
        go_ret
        exact ⟨rfl, Below.refl _ _⟩
      · have hs : Hid (NotIn an (hd ++ op) (p + 1)) := hst.out (by omega)
        go_wp2_with fail
        go_round
        case rel => exact ⟨p + 1, by omega, by go_num, hs.out⟩
        case measure => simp [intOf]; omega
    · obtain rfl : p = hd.length + M := by omega
      clear hlt hp
      go_wp2_with fail
      refine Calls.mono (clone_any ha hd hcap w H1.out (by omega)) ?_
      rintro e w1 ⟨ha', hcap', rfl, q1, B1, nn1⟩
      have Q1 : Hid (StrsAt w1 ha' hd) := q1
      have BB1 : Hid _ := B1
      have NN1 : Hid _ := nn1
      clear q1 B1 nn1
      go_wp2_with fail
      refine Calls.mono (clone_any oa op ocap w1 (H2.out.below BB1.out) (by omega)) ?_
      rintro e w2 ⟨oa', ocap', rfl, q2, B2, nn2⟩
      have Q2 : Hid (StrsAt w2 oa' op) := q2
      have BB2 : Hid _ := B2
      have NN2 : Hid _ := nn2
      clear q2 B2 nn2
      go_wp2_with fail
      refine Calls.mono (clone_any aa an acap w2 ((H3.out.below BB1.out).below BB2.out) (by omega)) ?_
      rintro e w3 ⟨aa', acap', rfl, q3, B3, _⟩
      have Q3 : Hid (StrsAt w3 aa' an) := q3
      have R1 : Hid (StrsAt w3 ha' hd) := (Q1.out.below BB2.out).below B3
      have R2 : Hid (StrsAt w3 oa' op) := Q2.out.below B3
      have BW : Hid (Below w.heap.size w w3) := by
        have z1 := BB1.out.size
        have z2 := BB2.out.size
        exact (BB1.out.trans (BB2.out.mono z1)).trans (B3.mono (by omega))
      clear q3 B3 Q1 Q2 BB1 BB2 H1 H2 H3
      have hmk : ∀ w, (Instr.makeSlice 22 (.int .i64 0) (.int .i64 ((hd.length : Int) + (M : Int) + 1))).run Try.prog w = .ok (.slice (some ⟨w.heap.size, 0, none⟩) 0 (hd.length + M + 1)) (w.alloc (.cells (madeCells #[.string ByteArray.empty] (hd.length + M + 1)) 9)) := fun w => by
        rw [show (hd.length : Int) + (M : Int) + 1 = ((hd.length + M + 1 : Nat) : Int) by omega]
        exact run_make_cap (hd.length + M + 1) (by omega) w
      go_wp2_with fail
      clear hmk
      obtain ⟨i0, hi, hz0, hz1, hz2⟩ := info_parts info9
      go_loopw [15, 16] (fun nv iv wr => ∃ p : Nat, p ≤ hd.length + M ∧ iv = .int .i64 (p : Int) ∧ nv = .slice (some ⟨w3.heap.size, 0, none⟩) (nmTo (hd ++ op) none p).length (hd.length + M + 1) ∧ NamesAt w3 wr (hd.length + M + 1) (nmTo (hd ++ op) none p)) (fun _ iv _ => hd.length + M - (intOf iv).toNat)
      case atStart => exact ⟨0, Nat.zero_le _, rfl, rfl, NamesAt.start w3 (hd.length + M + 1) (by omega)⟩
      case round =>
        obtain ⟨p, hp, rfl, rfl, hN⟩ := hrel
        have HN : Hid (NamesAt w3 wr (hd.length + M + 1) (nmTo (hd ++ op) none p)) := hN
        clear hN
        by_cases hlt : p < hd.length + M
        · have hnl : (nmTo (hd ++ op) none p).length = p := (nmTo_none _ p).1
          have o1 : Hid _ := ordered_any ha' oa' hcap' ocap' hd op p wr (R1.out.below HN.out.below) (R2.out.below HN.out.below) (by omega) (by omega)
          have hnx : Hid (nmTo (hd ++ op) none (p + 1) = nmTo (hd ++ op) none p ++ [(hd ++ op).getD p ByteArray.empty]) := by unfold Hid; simp [nmTo]
          generalize (hd ++ op).getD p ByteArray.empty = s at *
          have HNL : Hid _ := hnl
          generalize nmTo (hd ++ op) none p = nl at *
          have hle : nl.length ≤ p := by rw [HNL.out]; exact Nat.le_refl _
          clear hnl
          by_cases hpa : p = a
          · subst hpa
            go_wp2_with fail
            refine Calls.mono o1.out ?_
            rintro e w' ⟨rfl, rfl⟩
            go_wp2_with (at_builtin; go_must (refine wpList_append_fits _ rfl _ _ 22 rfl w3.heap.size 9 i0 1 Try.underlying22 hi hz1 w3.heap.size nl.length (hd.length + M + 1) (nl.map Value.string) rfl (HN.out.owns.alloc _) ⟨wr.heap.size, 0, none⟩ 1 1 [.string s] rfl rfl (cell_one_new _ _ _) (strs_oneCell [s]) (by omega) ?_); intro w5 hown5 hgrow5)
            have N5 : Hid (NamesAt w3 w5 (hd.length + M + 1) (nl ++ [s])) := HN.out.append hown5 hgrow5
            clear hown5 hgrow5
            go_wp2_with fail
            go_roundw
            case rel => exact ⟨p + 1, by omega, by go_num, by rw [hnx.out, List.length_append]; rfl, by rw [hnx.out]; exact N5.out⟩
            case measure => simp [intOf]; omega
          · have e1 : ((p : Int) == (a : Int)) = false := by simp; omega
            clear hpa
            go_wp2_with fail
            refine Calls.mono o1.out ?_
            rintro e w' ⟨rfl, rfl⟩
            go_wp2_with (at_builtin; go_must (refine wpList_append_fits _ rfl _ _ 22 rfl w3.heap.size 9 i0 1 Try.underlying22 hi hz1 w3.heap.size nl.length (hd.length + M + 1) (nl.map Value.string) rfl (HN.out.owns.alloc _) ⟨wr.heap.size, 0, none⟩ 1 1 [.string s] rfl rfl (cell_one_new _ _ _) (strs_oneCell [s]) (by omega) ?_); intro w5 hown5 hgrow5)
            have N5 : Hid (NamesAt w3 w5 (hd.length + M + 1) (nl ++ [s])) := HN.out.append hown5 hgrow5
            clear hown5 hgrow5
            go_wp2_with fail
            go_roundw
            case rel => exact ⟨p + 1, by omega, by go_num, by rw [hnx.out, List.length_append]; rfl, by rw [hnx.out]; exact N5.out⟩
            case measure => simp [intOf]; omega
        · obtain rfl : p = hd.length + M := by omega
          clear hlt hp
          have hna : Hid (nmAll (hd ++ op) none (hd.length + M) = nmTo (hd ++ op) none (hd.length + M)) := by unfold Hid; simp [nmAll]
          have HA : Hid (NamesAt w3 wr (hd.length + M + 1) (nmAll (hd ++ op) none (hd.length + M))) := by unfold Hid; rw [hna.out]; exact HN.out
          have hal : Hid ((nmAll (hd ++ op) none (hd.length + M)).length = hd.length + M) := (nmAll_none _ _).1
          have hacc : Hid _ := accepts_none an (hd ++ op) (hd.length + M) (by rw [List.length_append]; omega) (fun p hp => by have := HNI.out p hp; omega)
          rw [← hna.out]
          by_cases hba : a = hd.length + M
          · have e1 : ((a : Int) == (hd.length : Int) + (M : Int)) = true := by simp; omega
            clear hba
            obtain ⟨g1, g2, g3⟩ := hacc.out (hd.length + M) (Nat.le_refl _)
            have z1 : Hid _ := zz_any ha' oa' aa' (some ⟨w3.heap.size, 0, none⟩) hcap' ocap' acap' (hd.length + M + 1) hd op an (nmAll (hd ++ op) none (hd.length + M)) wr (R1.out.below HA.out.below) (R2.out.below HA.out.below) (Q3.out.below HA.out.below) HA.out.strs NN1.out NN2.out (by omega) (by omega) (by omega) (by rw [hal.out]; omega)
            have BZ : Hid (Below w.heap.size w wr) := BW.out.trans (HA.out.below.mono BW.out.size)
            have G1 : Hid _ := g1
            have G2 : Hid _ := g2
            have G3 : Hid (∀ j, j < hd.length + M → (⟨an, hd ++ op, nmAll (hd ++ op) none (hd.length + M)⟩ : Cols).placeOf j = (j : Int)) := g3
            clear g1 g2 g3 hacc HA HN HNI hna R1 R2 Q3 NN1 NN2 BW
            generalize nmAll (hd ++ op) none (hd.length + M) = nl at *
            go_wp2_with fail
            refine Calls.mono z1.out ?_
            rintro e w6 ⟨hb6, hp6⟩
            have B6 : Hid _ := hb6
            clear hb6 z1
            rcases hp6 with ⟨_, P, rfl, hP, hcl⟩ | ⟨hbad, _⟩
            · have hok : hd.length ≤ (⟨an, hd ++ op, nl⟩ : Cols).rest nl.length := by rw [hal.out, G2.out]; omega
              have hok' : decide (hd.length ≤ (⟨an, hd ++ op, nl⟩ : Cols).rest nl.length) = true := decide_eq_true hok
              have Hcl : Hid (∀ j, j < nl.length → w6.cell? ⟨P, j, none⟩ = some (.int .i64 ((⟨an, hd ++ op, nl⟩ : Cols).placeOf j))) := hcl
              clear hcl hok
              rw [hok']
              have hll := hal.out
              go_wp2_with fail
              go_loop [20] (fun iv => ∃ i : Nat, i ≤ hd.length + M ∧ iv = .int .i64 (i : Int)) (fun iv => hd.length + M - (intOf iv).toNat)
              case atStart => exact ⟨0, Nat.zero_le _, rfl⟩
              case round =>
                obtain ⟨i, hi', rfl⟩ := hrel
                by_cases hil : i < hd.length + M
                · have rc : w6.cell? ⟨P, i, none⟩ = some (.int .i64 (i : Int)) := by rw [Hcl.out i (by rw [hal.out]; exact hil), G3.out i hil]
                  have e2 : ((i : Int) != (i : Int)) = false := by simp
                  go_wp2_with fail
                  go_round
                  case rel => exact ⟨i + 1, by omega, by go_num⟩
                  case measure => simp [intOf]; omega
                · go_wp2_with fail
                  go_ret
                  exact ⟨rfl, BZ.out.trans (B6.out.mono BZ.out.size)⟩
            · exact absurd (by show (⟨an, hd ++ op, nl⟩ : Cols).okTo nl.length; rw [hal.out]; exact G1.out) hbad
          · have e1 : ((a : Int) == (hd.length : Int) + (M : Int)) = false := by simp; omega
            clear hba
            obtain ⟨g1, g2, g3⟩ := hacc.out (hd.length + M) (Nat.le_refl _)
            have z1 : Hid _ := zz_any ha' oa' aa' (some ⟨w3.heap.size, 0, none⟩) hcap' ocap' acap' (hd.length + M + 1) hd op an (nmAll (hd ++ op) none (hd.length + M)) wr (R1.out.below HA.out.below) (R2.out.below HA.out.below) (Q3.out.below HA.out.below) HA.out.strs NN1.out NN2.out (by omega) (by omega) (by omega) (by rw [hal.out]; omega)
            have BZ : Hid (Below w.heap.size w wr) := BW.out.trans (HA.out.below.mono BW.out.size)
            have G1 : Hid _ := g1
            have G2 : Hid _ := g2
            have G3 : Hid (∀ j, j < hd.length + M → (⟨an, hd ++ op, nmAll (hd ++ op) none (hd.length + M)⟩ : Cols).placeOf j = (j : Int)) := g3
            clear g1 g2 g3 hacc HA HN HNI hna R1 R2 Q3 NN1 NN2 BW
            generalize nmAll (hd ++ op) none (hd.length + M) = nl at *
            go_wp2_with fail
            refine Calls.mono z1.out ?_
            rintro e w6 ⟨hb6, hp6⟩
            have B6 : Hid _ := hb6
            clear hb6 z1
            rcases hp6 with ⟨_, P, rfl, hP, hcl⟩ | ⟨hbad, _⟩
            · have hok : hd.length ≤ (⟨an, hd ++ op, nl⟩ : Cols).rest nl.length := by rw [hal.out, G2.out]; omega
              have hok' : decide (hd.length ≤ (⟨an, hd ++ op, nl⟩ : Cols).rest nl.length) = true := decide_eq_true hok
              have Hcl : Hid (∀ j, j < nl.length → w6.cell? ⟨P, j, none⟩ = some (.int .i64 ((⟨an, hd ++ op, nl⟩ : Cols).placeOf j))) := hcl
              clear hcl hok
              rw [hok']
              have hll := hal.out
              go_wp2_with fail
              go_loop [20] (fun iv => ∃ i : Nat, i ≤ hd.length + M ∧ iv = .int .i64 (i : Int)) (fun iv => hd.length + M - (intOf iv).toNat)
              case atStart => exact ⟨0, Nat.zero_le _, rfl⟩
              case round =>
                obtain ⟨i, hi', rfl⟩ := hrel
                by_cases hil : i < hd.length + M
                · have rc : w6.cell? ⟨P, i, none⟩ = some (.int .i64 (i : Int)) := by rw [Hcl.out i (by rw [hal.out]; exact hil), G3.out i hil]
                  have e2 : ((i : Int) != (i : Int)) = false := by simp
                  go_wp2_with fail
                  go_round
                  case rel => exact ⟨i + 1, by omega, by go_num⟩
                  case measure => simp [intOf]; omega
                · go_wp2_with fail
                  go_ret
                  exact ⟨rfl, BZ.out.trans (B6.out.mono BZ.out.size)⟩
            · exact absurd (by show (⟨an, hd ++ op, nl⟩ : Cols).okTo nl.length; rw [hal.out]; exact G1.out) hbad
end Go.Proofs.Qxb6603151a
