/-
  THE WALK of 'FnPlacesAcceptsHeaderThenOptional' (function 5), a column of 'any' is put in (k not negative).
-/
import Derived.Test.Qxb6603151aAccBase
namespace Go.Proofs.Qxb6603151a
open Go.RowKit

set_option maxRecDepth 100000 in
set_option maxHeartbeats 3200000 in
theorem accepts_pos (ha oa aa : Option Addr) (hcap ocap acap : Nat) (hd op an : List Str) (m at_ k : Int) (w : World)
    (h1 : StrsAt w ha hd) (h2 : StrsAt w oa op) (h3 : StrsAt w aa an)
    (x1 : hd.length ≤ 9223372036854775807) (x2 : op.length ≤ 9223372036854775807) (x3 : an.length ≤ 9223372036854775807)
    (wm : -9223372036854775808 ≤ m ∧ m ≤ 9223372036854775807) (hk0 : 0 ≤ k) :
    Calls Try.prog 5 #[.slice ha hd.length hcap, .slice oa op.length ocap, .slice aa an.length acap, .int .i64 m, .int .i64 at_, .int .i64 k] w (TruePost w) := by
  have HB : Hid _ := bytes15 ha hcap hd oa ocap op aa acap an m at_ k w h1 x1 h2 x2 h3 x3
  have H1 : Hid (StrsAt w ha hd) := h1
  have H2 : Hid (StrsAt w oa op) := h2
  have H3 : Hid (StrsAt w aa an) := h3
  clear h1 h2 h3
  go_enter Try.func5, Try.ntmps5
  go_wp2_with fail
  refine Calls.mono HB.out ?_
  rintro e w' ⟨bb, rfl, rfl⟩
  clear HB
  cases bb
  · go_wp2
    go_ret
    exact ⟨rfl, Below.refl _ _⟩
  by_cases c1 : 4096 < hd.length
  · have c1' : (4096 : Int) < (hd.length : Int) := by omega
    go_wp2
    go_ret
    exact ⟨rfl, Below.refl _ _⟩
  by_cases c2 : 4096 < op.length
  · have c2' : (4096 : Int) < (op.length : Int) := by omega
    go_wp2
    go_ret
    exact ⟨rfl, Below.refl _ _⟩
  by_cases c3 : 4096 < an.length
  · have c3' : (4096 : Int) < (an.length : Int) := by omega
    go_wp2
    go_ret
    exact ⟨rfl, Below.refl _ _⟩
  have d1 : decide ((4096 : Int) < (hd.length : Int)) = false := decide_eq_false (by omega)
  have d2 : decide ((4096 : Int) < (op.length : Int)) = false := decide_eq_false (by omega)
  have d3 : decide ((4096 : Int) < (an.length : Int)) = false := decide_eq_false (by omega)
  have s1 : Hid _ := strBytes_any ha hcap hd w H1.out (by omega)
  have s2 : Hid _ := strBytes_any oa ocap op w H2.out (by omega)
  have s3 : Hid _ := strBytes_any aa acap an w H3.out (by omega)
  go_wp2_with fail
  refine Calls.mono s1.out ?_
  rintro e w' ⟨t1, rfl, rfl⟩
  go_wp2_with fail
  refine Calls.mono s2.out ?_
  rintro e w' ⟨t2, rfl, rfl⟩
  go_wp2_with fail
  refine Calls.mono s3.out ?_
  rintro e w' ⟨t3, rfl, rfl⟩
  clear s1 s2 s3
  by_cases cs : 1048576 < wrap64 (wrap64 (t1 + t2) + t3)
  · go_wp2
    go_ret
    exact ⟨rfl, Below.refl _ _⟩
  have ds : decide (1048576 < wrap64 (wrap64 (t1 + t2) + t3)) = false := decide_eq_false cs
  clear cs
  by_cases c4 : m < 0
  · go_wp2
    go_ret
    exact ⟨rfl, Below.refl _ _⟩
  by_cases c5 : (op.length : Int) < m
  · go_wp2
    go_ret
    exact ⟨rfl, Below.refl _ _⟩
  by_cases c6 : at_ < 0
  · go_wp2
    go_ret
    exact ⟨rfl, Below.refl _ _⟩
  by_cases c7 : (hd.length : Int) + m < at_
  · go_wp2
    go_ret
    exact ⟨rfl, Below.refl _ _⟩
  by_cases c9 : (an.length : Int) ≤ k
  · go_wp2
    go_ret
    exact ⟨rfl, Below.refl _ _⟩
  obtain ⟨M, rfl⟩ := Int.eq_ofNat_of_zero_le (show 0 ≤ m by omega)
  obtain ⟨a, rfl⟩ := Int.eq_ofNat_of_zero_le (show 0 ≤ at_ by omega)
  have b1 : M ≤ op.length := by omega
  have b2 : a ≤ hd.length + M := by omega
  have d4 : decide ((M : Int) < 0) = false := decide_eq_false (by omega)
  have d5 : decide ((op.length : Int) < (M : Int)) = false := decide_eq_false (by omega)
  have d6 : decide ((a : Int) < 0) = false := decide_eq_false (by omega)
  have d7 : decide ((hd.length : Int) + (M : Int) < (a : Int)) = false := decide_eq_false (by omega)
  have d8 : decide (k < -1) = false := decide_eq_false (by omega)
  have d9 : decide ((an.length : Int) ≤ k) = false := decide_eq_false (by omega)
  clear c4 c5 c6 c7
  have d5' : decide (op.length < M) = false := decide_eq_false (by omega)
  obtain ⟨kn, rfl⟩ := Int.eq_ofNat_of_zero_le hk0
  have hkn : kn < an.length := by omega
  clear c9 hk0
  have hx0 := H3.out
  rcases hx0 with hx0 | ⟨xb, xo, rfl, hxb, hxc⟩
  · rw [hx0] at hkn; simp at hkn
  have qx : w.cell? ⟨xb, xo + kn, none⟩ = some (.string (an.getD kn ByteArray.empty)) := hxc kn hkn
  have o0 : Hid _ := indexOf_any (some ⟨xb, xo, none⟩) acap an (an.getD kn ByteArray.empty) w H3.out (by omega)
  clear hxc
  generalize hX : an.getD kn ByteArray.empty = X at *
  have HX : Hid (an.getD kn ByteArray.empty = X) := hX
  clear hX
  go_wp2_with fail
  refine Calls.mono o0.out ?_
  rintro e w' ⟨rfl, rfl⟩
  clear o0
  by_cases hix : idx an X = (kn : Int)
  · have e0 : (idx an X != (kn : Int)) = false := by simp [hix]
    have HIX : Hid (idx an (an.getD kn ByteArray.empty) = (kn : Int)) := by unfold Hid; rw [HX.out]; exact hix
    clear hix
    generalize idx an X = xi0 at *
    clear qx
    have hno1 : Hid (∀ p, p < hd.length + M → p < hd.length + op.length) := fun p hp => by omega
    go_wp2_with fail
    go_loop [14] (fun iv => ∃ p : Nat, p ≤ hd.length + M ∧ iv = .int .i64 (p : Int) ∧ NotIn an (hd ++ op) p) (fun iv => hd.length + M - (intOf iv).toNat)
    case atStart => exact ⟨0, Nat.zero_le _, rfl, fun q hq => absurd hq (Nat.not_lt_zero _)⟩
    case round =>
      obtain ⟨p, hp, rfl, hni⟩ := hrel
      have HNI : Hid (NotIn an (hd ++ op) p) := hni
      clear hni
      by_cases hlt : p < hd.length + M
      · have o1 : Hid _ := ordered_any ha oa hcap ocap hd op p w H1.out H2.out (by omega) (by omega)
        have o2 : Hid _ := indexOf_any (some ⟨xb, xo, none⟩) acap an ((hd ++ op).getD p ByteArray.empty) w H3.out (by omega)
        have hst : Hid (idx an ((hd ++ op).getD p ByteArray.empty) < 0 → NotIn an (hd ++ op) (p + 1)) := fun h => HNI.out.step h
        generalize (hd ++ op).getD p ByteArray.empty = s at *
        generalize idx an s = xi at *
        go_wp2_with fail
        refine Calls.mono o1.out ?_
        rintro e w' ⟨rfl, rfl⟩
        go_wp2_with fail
        refine Calls.mono o2.out ?_
        rintro e w' ⟨rfl, rfl⟩
        by_cases h0 : 0 ≤ xi
        · go_wp2_with fail
          go_ret
          exact ⟨rfl, Below.refl _ _⟩
        · have hs : Hid (NotIn an (hd ++ op) (p + 1)) := hst.out (by omega)
          go_wp2_with fail
          go_round
          case rel => exact ⟨p + 1, by omega, by go_num, hs.out⟩
          case measure => simp [intOf]; omega
      · obtain rfl : p = hd.length + M := by omega
        clear hlt hp
        go_wp2_with fail
        refine Calls.mono (clone_any ha hd hcap w H1.out (by omega)) ?_
        rintro e w1 ⟨ha', hcap', rfl, q1, B1, nn1⟩
        have Q1 : Hid (StrsAt w1 ha' hd) := q1
        have BB1 : Hid _ := B1
        have NN1 : Hid _ := nn1
        clear q1 B1 nn1
        go_wp2_with fail
        refine Calls.mono (clone_any oa op ocap w1 (H2.out.below BB1.out) (by omega)) ?_
        rintro e w2 ⟨oa', ocap', rfl, q2, B2, nn2⟩
        have Q2 : Hid (StrsAt w2 oa' op) := q2
        have BB2 : Hid _ := B2
        have NN2 : Hid _ := nn2
        clear q2 B2 nn2
        go_wp2_with fail
        refine Calls.mono (clone_any (some ⟨xb, xo, none⟩) an acap w2 ((H3.out.below BB1.out).below BB2.out) (by omega)) ?_
        rintro e w3 ⟨aa', acap', rfl, q3, B3, _⟩
        have Q3 : Hid (StrsAt w3 aa' an) := q3
        have R1 : Hid (StrsAt w3 ha' hd) := (Q1.out.below BB2.out).below B3
        have R2 : Hid (StrsAt w3 oa' op) := Q2.out.below B3
        have BW : Hid (Below w.heap.size w w3) := by
          have z1 := BB1.out.size
          have z2 := BB2.out.size
          exact (BB1.out.trans (BB2.out.mono z1)).trans (B3.mono (by omega))
        clear q3 B3 Q1 Q2 BB1 BB2 H1 H2 H3
        have hmk : ∀ w, (Instr.makeSlice 22 (.int .i64 0) (.int .i64 ((hd.length : Int) + (M : Int) + 1))).run Try.prog w = .ok (.slice (some ⟨w.heap.size, 0, none⟩) 0 (hd.length + M + 1)) (w.alloc (.cells (madeCells #[.string ByteArray.empty] (hd.length + M + 1)) 9)) := fun w => by
          rw [show (hd.length : Int) + (M : Int) + 1 = ((hd.length + M + 1 : Nat) : Int) by omega]
          exact run_make_cap (hd.length + M + 1) (by omega) w
        go_wp2_with fail
        clear hmk
        obtain ⟨i0, hi, hz0, hz1, hz2⟩ := info_parts info9
        go_loopw [15, 16] (fun nv iv wr => ∃ p : Nat, p ≤ hd.length + M ∧ iv = .int .i64 (p : Int) ∧ nv = .slice (some ⟨w3.heap.size, 0, none⟩) (nmTo (hd ++ op) (some (a, an.getD kn ByteArray.empty)) p).length (hd.length + M + 1) ∧ NamesAt w3 wr (hd.length + M + 1) (nmTo (hd ++ op) (some (a, an.getD kn ByteArray.empty)) p)) (fun _ iv _ => hd.length + M - (intOf iv).toNat)
        case atStart => exact ⟨0, Nat.zero_le _, rfl, rfl, NamesAt.start w3 (hd.length + M + 1) (by omega)⟩
        case round =>
          obtain ⟨p, hp, rfl, rfl, hN⟩ := hrel
          have HN : Hid (NamesAt w3 wr (hd.length + M + 1) (nmTo (hd ++ op) (some (a, an.getD kn ByteArray.empty)) p)) := hN
          clear hN
          by_cases hlt : p < hd.length + M
          · have o1 : Hid (∀ wr', NamesAt w3 wr' (hd.length + M + 1) (nmTo (hd ++ op) (some (a, an.getD kn ByteArray.empty)) p ++ [an.getD kn ByteArray.empty]) ∨ NamesAt w3 wr' (hd.length + M + 1) (nmTo (hd ++ op) (some (a, an.getD kn ByteArray.empty)) p) → Calls Try.prog 14 #[.slice ha' hd.length hcap', .slice oa' op.length ocap', .int .i64 (p : Int)] wr' fun e w' => e = .returned (.string ((hd ++ op).getD p ByteArray.empty)) ∧ wr' = w') := fun wr' h =>
              ordered_any ha' oa' hcap' ocap' hd op p wr' (R1.out.below (by rcases h with h | h <;> exact h.below)) (R2.out.below (by rcases h with h | h <;> exact h.below)) (by omega) (by omega)
            have hac1 := Q3.out
            rcases hac1 with hac1 | ⟨ab, ao, rfl, hab, hac⟩
            · rw [hac1] at hkn; simp at hkn
            have qc : wr.cell? ⟨ab, ao + kn, none⟩ = some (.string (an.getD kn ByteArray.empty)) := by rw [HN.out.below.cell (p := ⟨ab, ao + kn, none⟩) hab]; exact hac kn hkn
            have hl2 := (nmTo_some (hd ++ op) a (an.getD kn ByteArray.empty) p).1
            clear hac
            by_cases hpa : p = a
            · subst hpa
              rw [if_neg (Nat.lt_irrefl p)] at hl2
              have hnx : Hid (nmTo (hd ++ op) (some (p, an.getD kn ByteArray.empty)) (p + 1) = nmTo (hd ++ op) (some (p, an.getD kn ByteArray.empty)) p ++ [an.getD kn ByteArray.empty] ++ [(hd ++ op).getD p ByteArray.empty]) := by unfold Hid; simp [nmTo]
              have HL2 : Hid _ := hl2
              clear hl2
              generalize (hd ++ op).getD p ByteArray.empty = s at *
              generalize hnl : nmTo (hd ++ op) (some (p, an.getD kn ByteArray.empty)) p = nl at *
              have Hnl : Hid _ := hnl
              clear hnl
              generalize hxx : an.getD kn ByteArray.empty = x at *
              have Hxx : Hid _ := hxx
              clear hxx
              have hle : nl.length ≤ p := by rw [HL2.out]; exact Nat.le_refl _
              go_wp2_with (at_builtin; go_must (refine wpList_append_fits _ rfl _ _ 22 rfl w3.heap.size 9 i0 1 Try.underlying22 hi hz1 w3.heap.size nl.length (hd.length + M + 1) (nl.map Value.string) rfl (HN.out.owns.alloc _) ⟨wr.heap.size, 0, none⟩ 1 1 [.string x] rfl rfl (cell_one_new _ _ _) (strs_oneCell [x]) (by omega) ?_); intro w5 hown5 hgrow5; have N5 : Hid (NamesAt w3 w5 (hd.length + M + 1) (nl ++ [x])) := HN.out.append hown5 hgrow5; clear hown5 hgrow5)
              have N5 : Hid (NamesAt w3 w5 (hd.length + M + 1) (nl ++ [x])) := by assumption
              have N5O : Hid (w5.ownsRow w3.heap.size 9 1 (.slice (some ⟨w3.heap.size, 0, none⟩) (nl.length + 1) (hd.length + M + 1)) (nl.length + 1) ((nl ++ [x]).map Value.string)) := by
                have := N5.out.owns
                simp only [List.length_append, List.length_singleton] at this
                exact this
              refine Calls.mono (o1.out w5 (.inl N5.out)) ?_
              rintro e w' ⟨rfl, rfl⟩
              go_wp2_with (at_builtin; go_must (refine wpList_append_fits _ rfl _ _ 22 rfl w3.heap.size 9 i0 1 Try.underlying22 hi hz1 w3.heap.size (nl.length + 1) (hd.length + M + 1) ((nl ++ [x]).map Value.string) rfl (N5O.out.alloc _) ⟨w5.heap.size, 0, none⟩ 1 1 [.string s] rfl rfl (cell_one_new _ _ _) (strs_oneCell [s]) (by omega) ?_); intro w7 hown7 hgrow7)
              have N7 : Hid (NamesAt w3 w7 (hd.length + M + 1) (nl ++ [x] ++ [s])) := N5.out.append (by simp only [List.length_append, List.length_singleton]; exact hown7) hgrow7
              clear hown7 hgrow7
              go_wp2_with fail
              go_roundw
              case rel => exact ⟨p + 1, by omega, by go_num, by rw [hnx.out, List.length_append, List.length_append]; rfl, by rw [hnx.out]; exact N7.out⟩
              case measure => simp [intOf]; omega
            · have e1 : ((p : Int) == (a : Int)) = false := by simp; omega
              have hnx : Hid (nmTo (hd ++ op) (some (a, an.getD kn ByteArray.empty)) (p + 1) = nmTo (hd ++ op) (some (a, an.getD kn ByteArray.empty)) p ++ [(hd ++ op).getD p ByteArray.empty]) := by unfold Hid; simp [nmTo, hpa]
              have HL2 : Hid _ := hl2
              clear hl2
              have o2 : Hid _ := o1.out wr (.inr HN.out)
              have hle : (nmTo (hd ++ op) (some (a, an.getD kn ByteArray.empty)) p).length ≤ p + 1 := by rw [HL2.out]; split <;> omega
              clear o1 hpa
              generalize (hd ++ op).getD p ByteArray.empty = s at *
              generalize nmTo (hd ++ op) (some (a, an.getD kn ByteArray.empty)) p = nl at *
              go_wp2_with fail
              refine Calls.mono o2.out ?_
              rintro e w' ⟨rfl, rfl⟩
              go_wp2_with (at_builtin; go_must (refine wpList_append_fits _ rfl _ _ 22 rfl w3.heap.size 9 i0 1 Try.underlying22 hi hz1 w3.heap.size nl.length (hd.length + M + 1) (nl.map Value.string) rfl (HN.out.owns.alloc _) ⟨wr.heap.size, 0, none⟩ 1 1 [.string s] rfl rfl (cell_one_new _ _ _) (strs_oneCell [s]) (by omega) ?_); intro w5 hown5 hgrow5)
              have N5 : Hid (NamesAt w3 w5 (hd.length + M + 1) (nl ++ [s])) := HN.out.append hown5 hgrow5
              clear hown5 hgrow5
              go_wp2_with fail
              go_roundw
              case rel => exact ⟨p + 1, by omega, by go_num, by rw [hnx.out, List.length_append]; rfl, by rw [hnx.out]; exact N5.out⟩
              case measure => simp [intOf]; omega
          · obtain rfl : p = hd.length + M := by omega
            clear hlt hp
            have hacc : Hid _ := accepts_some an (hd ++ op) (hd.length + M) a kn (by rw [List.length_append]; omega) b2 HIX.out (fun p hp => by have := HNI.out p hp; omega)
            have hal : Hid ((nmAll (hd ++ op) (some (a, an.getD kn ByteArray.empty)) (hd.length + M)).length = hd.length + M + 1) := (nmAll_some _ _ _ _ b2).1
            have hl2 := (nmTo_some (hd ++ op) a (an.getD kn ByteArray.empty) (hd.length + M)).1
            have HL2 : Hid _ := hl2
            clear hl2
            by_cases hba : a = hd.length + M
            · have e1 : ((a : Int) == (hd.length : Int) + (M : Int)) = true := by simp; omega
              have hna : Hid (nmAll (hd ++ op) (some (a, an.getD kn ByteArray.empty)) (hd.length + M) = nmTo (hd ++ op) (some (a, an.getD kn ByteArray.empty)) (hd.length + M) ++ [an.getD kn ByteArray.empty]) := by unfold Hid; simp [nmAll, hba]
              have hle : (nmTo (hd ++ op) (some (a, an.getD kn ByteArray.empty)) (hd.length + M)).length ≤ hd.length + M := by rw [HL2.out, if_neg (by omega)]; exact Nat.le_refl _
              have hac1 := Q3.out
              rcases hac1 with hac1 | ⟨ab, ao, rfl, hab, hac⟩
              · rw [hac1] at hkn; simp at hkn
              have qc : wr.cell? ⟨ab, ao + kn, none⟩ = some (.string (an.getD kn ByteArray.empty)) := by rw [HN.out.below.cell (p := ⟨ab, ao + kn, none⟩) hab]; exact hac kn hkn
              clear hac hba HL2
              generalize hnn : nmTo (hd ++ op) (some (a, an.getD kn ByteArray.empty)) (hd.length + M) = nl at *
              clear hnn
              generalize hxx : an.getD kn ByteArray.empty = x at *
              have Hxx : Hid (an.getD kn ByteArray.empty = x) := hxx
              clear hxx
              go_wp2_with (at_builtin; go_must (refine wpList_append_fits _ rfl _ _ 22 rfl w3.heap.size 9 i0 1 Try.underlying22 hi hz1 w3.heap.size nl.length (hd.length + M + 1) (nl.map Value.string) rfl (HN.out.owns.alloc _) ⟨wr.heap.size, 0, none⟩ 1 1 [.string x] rfl rfl (cell_one_new _ _ _) (strs_oneCell [x]) (by omega) ?_); intro w5 hown5 hgrow5; have N5 : Hid (NamesAt w3 w5 (hd.length + M + 1) (nl ++ [x])) := HN.out.append hown5 hgrow5; clear hown5 hgrow5)
              have N5 : Hid (NamesAt w3 w5 (hd.length + M + 1) (nl ++ [x])) := by assumption
              have HA : Hid (NamesAt w3 w5 (hd.length + M + 1) (nmAll (hd ++ op) (some (a, x)) (hd.length + M))) := by unfold Hid; rw [hna.out]; exact N5.out
              have hlen5 : Hid (nl.length + 1 = (nmAll (hd ++ op) (some (a, x)) (hd.length + M)).length) := by unfold Hid; rw [hna.out, List.length_append]; rfl
              rw [hlen5.out]
              clear HN N5 qc hna hle hlen5
              generalize wr = wq at *
              generalize w5 = wr at *
              obtain ⟨g1, g2, g3⟩ := hacc.out (hd.length + M + 1) (Nat.le_refl _)
              have z1 : Hid _ := zz_any ha' oa' (some ⟨ab, ao, none⟩) (some ⟨w3.heap.size, 0, none⟩) hcap' ocap' acap' (hd.length + M + 1) hd op an (nmAll (hd ++ op) (some (a, x)) (hd.length + M)) wr (R1.out.below HA.out.below) (R2.out.below HA.out.below) (Q3.out.below HA.out.below) HA.out.strs NN1.out NN2.out (by omega) (by omega) (by omega) (by rw [hal.out]; omega)
              have BZ : Hid (Below w.heap.size w wr) := BW.out.trans (HA.out.below.mono BW.out.size)
              have G1 : Hid _ := g1
              have G2 : Hid ((⟨an, hd ++ op, nmAll (hd ++ op) (some (a, x)) (hd.length + M)⟩ : Cols).rest (hd.length + M + 1) = hd.length + M) := by unfold Hid; rw [g2, if_pos (by omega)]; omega
              have G3 : Hid (∀ j, j < hd.length + M + 1 → (⟨an, hd ++ op, nmAll (hd ++ op) (some (a, x)) (hd.length + M)⟩ : Cols).placeOf j = if j = a then ((hd ++ op).length : Int) + kn else if a < j then (j : Int) - 1 else (j : Int)) := g3
              have hLO : Hid (((hd ++ op).length : Int) = (hd.length : Int) + (op.length : Int)) := by unfold Hid; rw [List.length_append]; omega
              clear g1 g2 g3 hacc HA HNI R1 R2 Q3 NN1 NN2 BW
              generalize nmAll (hd ++ op) (some (a, x)) (hd.length + M) = nl at *
              refine Calls.mono z1.out ?_
              rintro e w6 ⟨hb6, hp6⟩
              have B6 : Hid _ := hb6
              clear hb6 z1
              rcases hp6 with ⟨_, P, rfl, hP, hcl⟩ | ⟨hbad, _⟩
              · have hok : hd.length ≤ (⟨an, hd ++ op, nl⟩ : Cols).rest nl.length := by rw [hal.out, G2.out]; omega
                have hok' : decide (hd.length ≤ (⟨an, hd ++ op, nl⟩ : Cols).rest nl.length) = true := decide_eq_true hok
                have Hcl : Hid (∀ j, j < nl.length → w6.cell? ⟨P, j, none⟩ = some (.int .i64 ((⟨an, hd ++ op, nl⟩ : Cols).placeOf j))) := hcl
                clear hcl hok
                rw [hok']
                have hll := hal.out
                go_wp2_with fail
                go_loop [20] (fun iv => ∃ i : Nat, i ≤ hd.length + M + 1 ∧ iv = .int .i64 (i : Int)) (fun iv => hd.length + M + 1 - (intOf iv).toNat)
                case atStart => exact ⟨0, Nat.zero_le _, rfl⟩
                case round =>
                  obtain ⟨i, hi', rfl⟩ := hrel
                  by_cases hil : i < hd.length + M + 1
                  · have rc0 := Hcl.out i (by rw [hal.out]; exact hil)
                    rw [G3.out i hil, hLO.out] at rc0
                    by_cases ei : i = a
                    · rw [if_pos ei] at rc0
                      have e2 : ((i : Int) == (a : Int)) = true := by simp; omega
                      have e3 : ((hd.length : Int) + (op.length : Int) + (kn : Int) != (hd.length : Int) + (op.length : Int) + (kn : Int)) = false := by simp
                      clear ei
                      go_wp2_with fail
                      go_round
                      case rel => exact ⟨i + 1, by omega, by go_num⟩
                      case measure => simp [intOf]; omega
                    · rw [if_neg ei] at rc0
                      have e2 : ((i : Int) == (a : Int)) = false := by simp; omega
                      by_cases ej : a < i
                      · rw [if_pos ej] at rc0
                        have e3 : ((i : Int) - 1 != (i : Int) - 1) = false := by simp
                        clear ei
                        go_wp2_with fail
                        go_round
                        case rel => exact ⟨i + 1, by omega, by go_num⟩
                        case measure => simp [intOf]; omega
                      · rw [if_neg ej] at rc0
                        have e3 : ((i : Int) != (i : Int)) = false := by simp
                        clear ei
                        go_wp2_with fail
                        go_round
                        case rel => exact ⟨i + 1, by omega, by go_num⟩
                        case measure => simp [intOf]; omega
                  · go_wp2_with fail
                    go_ret
                    exact ⟨rfl, BZ.out.trans (B6.out.mono BZ.out.size)⟩
              · exact absurd (by show (⟨an, hd ++ op, nl⟩ : Cols).okTo nl.length; rw [hal.out]; exact G1.out) hbad
            · have e1 : ((a : Int) == (hd.length : Int) + (M : Int)) = false := by simp; omega
              have hna : Hid (nmAll (hd ++ op) (some (a, an.getD kn ByteArray.empty)) (hd.length + M) = nmTo (hd ++ op) (some (a, an.getD kn ByteArray.empty)) (hd.length + M)) := by unfold Hid; simp [nmAll, hba]
              have HA : Hid (NamesAt w3 wr (hd.length + M + 1) (nmAll (hd ++ op) (some (a, an.getD kn ByteArray.empty)) (hd.length + M))) := by unfold Hid; rw [hna.out]; exact HN.out
              rw [← hna.out]
              clear HN hna HL2 hba
              generalize hxx : an.getD kn ByteArray.empty = x at *
              have Hxx : Hid (an.getD kn ByteArray.empty = x) := hxx
              clear hxx
              go_wp2_with fail
              obtain ⟨g1, g2, g3⟩ := hacc.out (hd.length + M + 1) (Nat.le_refl _)
              have z1 : Hid _ := zz_any ha' oa' aa' (some ⟨w3.heap.size, 0, none⟩) hcap' ocap' acap' (hd.length + M + 1) hd op an (nmAll (hd ++ op) (some (a, x)) (hd.length + M)) wr (R1.out.below HA.out.below) (R2.out.below HA.out.below) (Q3.out.below HA.out.below) HA.out.strs NN1.out NN2.out (by omega) (by omega) (by omega) (by rw [hal.out]; omega)
              have BZ : Hid (Below w.heap.size w wr) := BW.out.trans (HA.out.below.mono BW.out.size)
              have G1 : Hid _ := g1
              have G2 : Hid ((⟨an, hd ++ op, nmAll (hd ++ op) (some (a, x)) (hd.length + M)⟩ : Cols).rest (hd.length + M + 1) = hd.length + M) := by unfold Hid; rw [g2, if_pos (by omega)]; omega
              have G3 : Hid (∀ j, j < hd.length + M + 1 → (⟨an, hd ++ op, nmAll (hd ++ op) (some (a, x)) (hd.length + M)⟩ : Cols).placeOf j = if j = a then ((hd ++ op).length : Int) + kn else if a < j then (j : Int) - 1 else (j : Int)) := g3
              have hLO : Hid (((hd ++ op).length : Int) = (hd.length : Int) + (op.length : Int)) := by unfold Hid; rw [List.length_append]; omega
              clear g1 g2 g3 hacc HA HNI R1 R2 Q3 NN1 NN2 BW
              generalize nmAll (hd ++ op) (some (a, x)) (hd.length + M) = nl at *
              refine Calls.mono z1.out ?_
              rintro e w6 ⟨hb6, hp6⟩
              have B6 : Hid _ := hb6
              clear hb6 z1
              rcases hp6 with ⟨_, P, rfl, hP, hcl⟩ | ⟨hbad, _⟩
              · have hok : hd.length ≤ (⟨an, hd ++ op, nl⟩ : Cols).rest nl.length := by rw [hal.out, G2.out]; omega
                have hok' : decide (hd.length ≤ (⟨an, hd ++ op, nl⟩ : Cols).rest nl.length) = true := decide_eq_true hok
                have Hcl : Hid (∀ j, j < nl.length → w6.cell? ⟨P, j, none⟩ = some (.int .i64 ((⟨an, hd ++ op, nl⟩ : Cols).placeOf j))) := hcl
                clear hcl hok
                rw [hok']
                have hll := hal.out
                go_wp2_with fail
                go_loop [20] (fun iv => ∃ i : Nat, i ≤ hd.length + M + 1 ∧ iv = .int .i64 (i : Int)) (fun iv => hd.length + M + 1 - (intOf iv).toNat)
                case atStart => exact ⟨0, Nat.zero_le _, rfl⟩
                case round =>
                  obtain ⟨i, hi', rfl⟩ := hrel
                  by_cases hil : i < hd.length + M + 1
                  · have rc0 := Hcl.out i (by rw [hal.out]; exact hil)
                    rw [G3.out i hil, hLO.out] at rc0
                    by_cases ei : i = a
                    · rw [if_pos ei] at rc0
                      have e2 : ((i : Int) == (a : Int)) = true := by simp; omega
                      have e3 : ((hd.length : Int) + (op.length : Int) + (kn : Int) != (hd.length : Int) + (op.length : Int) + (kn : Int)) = false := by simp
                      clear ei
                      go_wp2_with fail
                      go_round
                      case rel => exact ⟨i + 1, by omega, by go_num⟩
                      case measure => simp [intOf]; omega
                    · rw [if_neg ei] at rc0
                      have e2 : ((i : Int) == (a : Int)) = false := by simp; omega
                      by_cases ej : a < i
                      · rw [if_pos ej] at rc0
                        have e3 : ((i : Int) - 1 != (i : Int) - 1) = false := by simp
                        clear ei
                        go_wp2_with fail
                        go_round
                        case rel => exact ⟨i + 1, by omega, by go_num⟩
                        case measure => simp [intOf]; omega
                      · rw [if_neg ej] at rc0
                        have e3 : ((i : Int) != (i : Int)) = false := by simp
                        clear ei
                        go_wp2_with fail
                        go_round
                        case rel => exact ⟨i + 1, by omega, by go_num⟩
                        case measure => simp [intOf]; omega
                  · go_wp2_with fail
                    go_ret
                    exact ⟨rfl, BZ.out.trans (B6.out.mono BZ.out.size)⟩
              · exact absurd (by show (⟨an, hd ++ op, nl⟩ : Cols).okTo nl.length; rw [hal.out]; exact G1.out) hbad
  · have e0 : (idx an X != (kn : Int)) = true := by simp [hix]
    generalize idx an X = xi0 at *
    go_wp2_with fail
    go_ret
    exact ⟨rfl, Below.refl _ _⟩
end Go.Proofs.Qxb6603151a
