/-
  THE WALK of 'FnPassConservesCopiesAndCountsEveryChange' (function 7): it returns true.
-/
import Derived.Test.Qxb6603019aOver
namespace Go.Proofs.Qxb6603019a
open Go.RowKit

def ConsPost (w : World) (e : Ending) (w' : World) : Prop := e = .returned (.bool true) ∧ Below w.heap.size w w'

/-- The sum in Go's wrapping arithmetic. -/
def sumW (xs : List Int) : Int := wrap64 (sumF plain 0 xs)
theorem sumW_take (xs : List Int) (k : Nat) (hk : k < xs.length) : sumW (xs.take (k + 1)) = wrap64 (sumW (xs.take k) + xs.getD k 0) := by
  unfold sumW
  rw [sumF_take _ _ _ hk, wrap_add]
  rfl
theorem sumW_zero (xs : List Int) : sumW (xs.take 0) = 0 := by simp [sumW, sumF, wrap_in]
def recvN (o xs : List Int) : Int := sumF (recvF o) 0 xs
theorem recvN_bound (o xs : List Int) : 0 ≤ recvN o xs ∧ recvN o xs ≤ xs.length := sumF_bound _ (fun i x => by unfold recvF; split <;> omega) xs 0
theorem recvN_take (o xs : List Int) (k : Nat) (hk : k < xs.length) : recvN o (xs.take (k + 1)) = recvN o (xs.take k) + if o.getD k 0 = 0 ∧ 0 < xs.getD k 0 then 1 else 0 := sumF_take _ _ _ hk

/-- What the kept quantities say in the law's own words. -/
theorem cons_facts {s0 s : St} (k : Kept s0 s) (hl : s0.h.length ≤ 65536) (_ht : -9223372036854775808 ≤ s0.t ∧ s0.t ≤ 9223372036854775807) (_hg : -9223372036854775808 ≤ s0.g ∧ s0.g ≤ 9223372036854775807) :
    sumW s0.h = sumW s.h ∧ wrap64 (s.t - s0.t) = recvN s0.h s.h ∧ wrap64 (s.g - s0.g) = overOne s.h - overOne s0.h ∧ s.m = decide (0 < recvN s0.h s.h) := by
  have b1 := recvN_bound s0.h s.h
  have b2 := overOne_bound s.h
  have b3 := overOne_bound s0.h
  have hl2 := k.len
  refine ⟨by unfold sumW; rw [k.sum], ?_, ?_, k.m⟩
  · rw [k.t]
    show wrap64 (wrap64 (s0.t + recvN s0.h s.h) - s0.t) = _
    generalize recvN s0.h s.h = r at *
    unfold wrap64
    omega
  · rw [k.g]
    show wrap64 (wrap64 (s0.g + (overOne s.h - overOne s0.h)) - s0.g) = _
    generalize overOne s.h = r at *
    generalize overOne s0.h = q at *
    unfold wrap64
    omega

set_option maxRecDepth 100000 in
set_option maxHeartbeats 1600000 in
theorem cons_some (ha ka : Option Addr) (hcap kcap : Nat) (h ks : List Int) (g t : Int) (m : Option Nat) (A : Int → Option Addr) (L : Int → List Int) (C : Int → Nat) (hs : Int → Bool) (w : World)
    (hh : IntsAt w ha h) (hk : IntsAt w ka ks) (hl : LinksAt w m A L C hs) (hfit : Fits h) (wt : -9223372036854775808 ≤ t ∧ t ≤ 9223372036854775807) (wg : -9223372036854775808 ≤ g ∧ g ≤ 9223372036854775807) (hg0 : (g == 0) = false) :
    Calls Try.prog 7 #[.slice ha h.length hcap, .int .i64 g, .int .i64 t, .map m, .slice ka ks.length kcap] w (ConsPost w) := by
  obtain ⟨mn, hm⟩ := hl.map.len
  by_cases c1 : 65536 < h.length
  · have c1' : (65536 : Int) < (h.length : Int) := by omega
    go_enter Try.func7, Try.ntmps7
    go_wp2
    go_ret
    exact ⟨rfl, Below.refl _ _⟩
  by_cases c2 : 65536 < mn
  · have c2' : (65536 : Int) < (mn : Int) := by omega
    go_enter Try.func7, Try.ntmps7
    go_wp2
    go_ret
    exact ⟨rfl, Below.refl _ _⟩
  by_cases c3 : 65536 < ks.length
  · have c3' : (65536 : Int) < (ks.length : Int) := by omega
    go_enter Try.func7, Try.ntmps7
    go_wp2
    go_ret
    exact ⟨rfl, Below.refl _ _⟩
  have r1 : h.length * 8 ≤ 140737488351232 := by omega
  have r2 : ks.length * 8 ≤ 140737488351232 := by omega
  have d1 : decide ((65536 : Int) < (h.length : Int)) = false := decide_eq_false (by omega)
  have d2 : decide ((65536 : Int) < (mn : Int)) = false := decide_eq_false (by omega)
  have d3 : decide ((65536 : Int) < (ks.length : Int)) = false := decide_eq_false (by omega)
  have HB : Hid _ := bytes_any ha ka h.length hcap kcap ks m A L C hs w hk hl (by omega) (by omega)
  have HE : Hid _ := enum_any ka kcap ks m A L C hs w hk hl (by omega)
  go_enter Try.func7, Try.ntmps7
  go_wp2_with fail
  refine Calls.mono HB.out ?_
  rintro e w' ⟨tb, rfl, hsh, rfl⟩
  have Hsh : Hid (tb ≤ 1048576 → Short L ks ks.length) := hsh
  clear hsh
  by_cases ctb : 1048576 < tb
  · go_wp2
    go_ret
    exact ⟨rfl, Below.refl _ _⟩
  have dtb : decide (1048576 < tb) = false := decide_eq_false (by omega)
  have HSh : Hid (Short L ks ks.length) := Hsh.out (by omega)
  clear Hsh
  go_wp2_with fail
  refine Calls.mono HE.out ?_
  rintro e W0 ⟨be, rfl, n0, hW0⟩
  have HW0 : Hid _ := hW0
  clear hW0
  cases be
  · go_wp2
    go_ret
    exact ⟨rfl, by rw [HW0.out]; exact below_drewN (Below.refl _ _) _⟩
  have b0 : Hid (Below w.heap.size w W0) := by rw [HW0.out]; exact below_drewN (Below.refl _ _) _
  have hW : Hid (W0.heap.size = w.heap.size) := by rw [HW0.out]; rfl
  have i0h : Hid (IntsAt W0 ha h) := hh.below b0.out
  have i0k : Hid (IntsAt W0 ka ks) := hk.below b0.out
  have i0l : Hid (LinksAt W0 m A L C hs) := hl.below b0.out
  clear HB HE HW0 hm hh hk hl
  go_wp2_with fail
  refine Calls.mono (dom_any h.length ka kcap ks m A L C hs W0 i0k.out i0l.out (by omega)) ?_
  rintro e w' ⟨bd, rfl, hdom, rfl⟩
  have Hdom : Hid _ := hdom
  clear hdom
  cases bd
  · go_wp2
    go_ret
    exact ⟨rfl, b0.out⟩
  go_wp2_with fail
  refine Calls.mono (clone_any ha h hcap W0 i0h.out r1) ?_
  rintro e w1 ⟨ao, cap1, rfl, row1, b1⟩
  have Row1 : Hid (RowAt w1 ao W0.heap.size h) := row1
  have B1 : Hid _ := b1
  clear row1 b1
  go_wp2_with fail
  refine Calls.mono (clone_any ka ks kcap w1 (i0k.out.below B1.out) r2) ?_
  rintro e w2 ⟨ko, cap2, rfl, row2, b2⟩
  have Row2 : Hid (RowAt w2 ko w1.heap.size ks) := row2
  have B2 : Hid _ := b2
  clear row2 b2
  go_wp2_with fail
  refine Calls.mono (copy_any m ko cap2 ks A L C hs w2 Row2.out.ints ((i0l.out.below B1.out).below B2.out) (by omega) HSh.out) ?_
  rintro e w3 ⟨m', A', L', C', hs', rfl, hl', hA', hm', hL', b3⟩
  have Hl' : Hid _ := hl'
  have HA' : Hid _ := hA'
  have Hm' : Hid _ := hm'
  have HL' : Hid _ := hL'
  have B3 : Hid _ := b3
  clear hl' hA' hm' hL' b3
  go_wp2_with fail
  refine Calls.mono (clone_any ao h cap1 w3 ((Row1.out.ints.below B2.out).below B3.out) r1) ?_
  rintro e w4 ⟨oo, cap4, rfl, row4, b4⟩
  have Row4 : Hid (RowAt w4 oo w3.heap.size h) := row4
  have B4 : Hid _ := b4
  clear row4 b4
  have hd : Hid (∀ x, DomAt h.length L' x) := fun x => domAll_of (Hdom.out trivial) HL'.out x
  have g1 : Hid (ao ≠ none → W0.heap.size < w1.heap.size) := fun hne => by
    have R1 := Row1.out
    rcases R1 with ⟨e, _⟩ | ⟨_, h, _⟩
    · exact absurd e hne
    · exact h
  have Rr4 : Hid (RowAt w4 ao W0.heap.size h) := ((Row1.out.below B2.out).below B3.out).below B4.out
  have hz : Hid _ := zz_any ao W0.heap.size cap1 ⟨h, g, t, false⟩ m' A' L' C' hs' w4 rfl Rr4.out (Hl'.out.below B4.out)
    (fun hne b hb => by have := Hm'.out b hb; have := g1.out hne; have := B2.out.size; omega)
    (fun hne x ad had => by have := HA'.out x ad had; have := g1.out hne; have := B2.out.size; omega) (by show h.length ≤ 65536; omega) hfit hd.out
  go_wp2_with fail
  refine Calls.mono hz.out ?_
  rintro e w5 ⟨rfl, row5, one5⟩
  have T5 : Hid (Tail w w5 h (finalSt L' ⟨h, g, t, false⟩) ao oo m' A' L' C' hs') := tail_of rfl b0.out B1.out B2.out B3.out B4.out Row1.out Row4.out Hl'.out HA'.out Hm'.out hd.out row5 one5
  clear row5 one5 hz Rr4 g1 hd B4 Row4 B3 HL' Hm' HA' Hl' B2 Row2 B1 Row1 Hdom i0l i0k i0h hW b0 HSh
  have hkp := kept_law L' ⟨h, g, t, false⟩ T5.out.dom rfl wt wg
  obtain ⟨f1, f2, f3, f4⟩ := cons_facts hkp (by show h.length ≤ 65536; omega) wt wg
  have htn : Hid (∀ i, i < h.length → Turn (h.getD i 0) ((finalSt L' ⟨h, g, t, false⟩).h.getD i 0)) := hkp.turn
  clear hkp
  generalize finalSt L' ⟨h, g, t, false⟩ = s' at *
  have hsl : s'.h.length = h.length := T5.out.len
  have F1 : Hid (sumW h = sumW s'.h) := f1
  have F2 : Hid (wrap64 (s'.t - t) = recvN h s'.h) := f2
  have F3 : Hid (wrap64 (s'.g - g) = overOne s'.h - overOne h) := f3
  have F4 : Hid (s'.m = decide (0 < recvN h s'.h)) := f4
  clear f1 f2 f3 f4
  have o1 : Hid _ := over_any ao cap1 s'.h w5 T5.out.new (by rw [hsl]; omega)
  have o2 : Hid _ := over_any oo cap4 h w5 T5.out.old (by omega)
  rw [hsl] at o1
  go_wp2_with fail
  have HS : Hid _ := hsl
  have hn1 : h.length ≤ 65536 := by omega
  clear hsl hg0 hfit
  go_loop [17, 18, 19, 20] (fun so sn rc i => ∃ k : Nat, k ≤ h.length ∧ i = .int .i64 (k : Int) ∧ so = .int .i64 (sumW (h.take k)) ∧ sn = .int .i64 (sumW (s'.h.take k)) ∧ rc = .int .i64 (recvN h (s'.h.take k))) (fun _ _ _ i => h.length - (intOf i).toNat)
  case atStart => exact ⟨0, Nat.zero_le _, rfl, by rw [sumW_zero], by rw [sumW_zero], rfl⟩
  case round =>
    obtain ⟨k, hkn, rfl, rfl, rfl, rfl⟩ := hrel
    by_cases hlt : k < h.length
    · have hW := T5.out.new
      have hO := T5.out.old
      rcases hW with hW | ⟨nb, no, rfl, hnb, hnc⟩
      · have := HS.out; rw [hW] at this; simp at this; omega
      · rcases hO with hO | ⟨ob, off, rfl, hob, hoc⟩
        · rw [hO] at hlt; simp at hlt
        · have rn := hnc k (by rw [HS.out]; exact hlt)
          have ro := hoc k hlt
          have tn := htn.out k hlt
          have e1 : Hid _ := sumW_take h k hlt
          have e2 : Hid _ := sumW_take s'.h k (by rw [HS.out]; exact hlt)
          have e3 : Hid _ := recvN_take h s'.h k (by rw [HS.out]; exact hlt)
          have bd := recvN_bound h (s'.h.take k)
          have ble : (s'.h.take k).length ≤ k := List.length_take_le _ _
          clear hnc hoc
          generalize recvN h (s'.h.take k) = rc at *
          generalize sumW (h.take k) = so at *
          generalize sumW (s'.h.take k) = sn at *
          generalize h.getD k 0 = o at *
          generalize s'.h.getD k 0 = v at *
          unfold Turn at tn
          rcases tn with c | ⟨c1, c2⟩ | ⟨c1, c2, c3⟩
          · subst c
            rw [if_neg (by omega)] at e3
            go_wp2_with fail
            go_round
            case rel => exact ⟨k + 1, by omega, by go_num, by rw [e1.out], by rw [e2.out], by rw [e3.out]; go_num⟩
            case measure => simp [intOf]; omega
          · subst c1
            rw [if_pos ⟨rfl, c2⟩] at e3
            have q1 : (v == 0) = false := by simp; omega
            go_wp2_with fail
            go_round
            case rel => exact ⟨k + 1, by omega, by go_num, by rw [e1.out, Int.add_zero], by rw [e2.out], by rw [e3.out]⟩
            case measure => simp [intOf]; omega
          · rw [if_neg (by omega)] at e3
            have q1 : (v == o) = false := by simp; omega
            have q2 : (o == 0) = false := by simp; omega
            go_wp2_with fail
            go_round
            case rel => exact ⟨k + 1, by omega, by go_num, by rw [e1.out], by rw [e2.out], by rw [e3.out]; go_num⟩
            case measure => simp [intOf]; omega
    · obtain rfl : k = h.length := by omega
      have ht1 : h.take h.length = h := List.take_length
      have ht2 : s'.h.take h.length = s'.h := by rw [← HS.out]; exact List.take_length
      rw [ht1, ht2]
      have b1 := recvN_bound h s'.h
      have b2 := overOne_bound s'.h
      have b3 := overOne_bound h
      rw [HS.out] at b1 b2
      have q1 : (sumW h != sumW s'.h) = false := by rw [F1.out]; simp
      have q2 : (wrap64 (s'.t - t) != recvN h s'.h) = false := by rw [F2.out]; simp
      have q3 : (wrap64 (s'.g - g) != overOne s'.h - overOne h) = false := by rw [F3.out]; simp
      clear ht1 ht2 htn F1 F2 F3
      generalize sumW h = sA at *
      generalize sumW s'.h = sB at *
      generalize recvN h s'.h = rr at *
      generalize overOne s'.h = oA at *
      generalize overOne h = oB at *
      go_wp2_with fail
      refine Calls.mono o1.out ?_
      rintro e w' ⟨rfl, rfl⟩
      go_wp2_with fail
      refine Calls.mono o2.out ?_
      rintro e w' ⟨rfl, rfl⟩
      go_wp2_with fail
      go_ret
      exact ⟨by rw [F4.out]; simp, T5.out.below⟩

set_option maxRecDepth 100000 in
set_option maxHeartbeats 1600000 in
theorem cons_zero (ha ka : Option Addr) (hcap kcap : Nat) (h ks : List Int) (g t : Int) (m : Option Nat) (A : Int → Option Addr) (L : Int → List Int) (C : Int → Nat) (hs : Int → Bool) (w : World)
    (hh : IntsAt w ha h) (hk : IntsAt w ka ks) (hl : LinksAt w m A L C hs) (hfit : Fits h) (hg0 : (g == 0) = true) (hgz : Hid (g = 0)) :
    Calls Try.prog 7 #[.slice ha h.length hcap, .int .i64 g, .int .i64 t, .map m, .slice ka ks.length kcap] w (ConsPost w) := by
  obtain ⟨mn, hm⟩ := hl.map.len
  by_cases c1 : 65536 < h.length
  · have c1' : (65536 : Int) < (h.length : Int) := by omega
    go_enter Try.func7, Try.ntmps7
    go_wp2
    go_ret
    exact ⟨rfl, Below.refl _ _⟩
  by_cases c2 : 65536 < mn
  · have c2' : (65536 : Int) < (mn : Int) := by omega
    go_enter Try.func7, Try.ntmps7
    go_wp2
    go_ret
    exact ⟨rfl, Below.refl _ _⟩
  by_cases c3 : 65536 < ks.length
  · have c3' : (65536 : Int) < (ks.length : Int) := by omega
    go_enter Try.func7, Try.ntmps7
    go_wp2
    go_ret
    exact ⟨rfl, Below.refl _ _⟩
  have r1 : h.length * 8 ≤ 140737488351232 := by omega
  have r2 : ks.length * 8 ≤ 140737488351232 := by omega
  have d1 : decide ((65536 : Int) < (h.length : Int)) = false := decide_eq_false (by omega)
  have d2 : decide ((65536 : Int) < (mn : Int)) = false := decide_eq_false (by omega)
  have d3 : decide ((65536 : Int) < (ks.length : Int)) = false := decide_eq_false (by omega)
  have HB : Hid _ := bytes_any ha ka h.length hcap kcap ks m A L C hs w hk hl (by omega) (by omega)
  have HE : Hid _ := enum_any ka kcap ks m A L C hs w hk hl (by omega)
  go_enter Try.func7, Try.ntmps7
  go_wp2_with fail
  refine Calls.mono HB.out ?_
  rintro e w' ⟨tb, rfl, hsh, rfl⟩
  have Hsh : Hid (tb ≤ 1048576 → Short L ks ks.length) := hsh
  clear hsh
  by_cases ctb : 1048576 < tb
  · go_wp2
    go_ret
    exact ⟨rfl, Below.refl _ _⟩
  have dtb : decide (1048576 < tb) = false := decide_eq_false (by omega)
  have HSh : Hid (Short L ks ks.length) := Hsh.out (by omega)
  clear Hsh
  go_wp2_with fail
  refine Calls.mono HE.out ?_
  rintro e W0 ⟨be, rfl, n0, hW0⟩
  have HW0 : Hid _ := hW0
  clear hW0
  cases be
  · go_wp2
    go_ret
    exact ⟨rfl, by rw [HW0.out]; exact below_drewN (Below.refl _ _) _⟩
  have b0 : Hid (Below w.heap.size w W0) := by rw [HW0.out]; exact below_drewN (Below.refl _ _) _
  have hW : Hid (W0.heap.size = w.heap.size) := by rw [HW0.out]; rfl
  have i0h : Hid (IntsAt W0 ha h) := hh.below b0.out
  have i0k : Hid (IntsAt W0 ka ks) := hk.below b0.out
  have i0l : Hid (LinksAt W0 m A L C hs) := hl.below b0.out
  clear HB HE HW0 hm hh hk hl
  go_wp2_with fail
  refine Calls.mono (dom_any h.length ka kcap ks m A L C hs W0 i0k.out i0l.out (by omega)) ?_
  rintro e w' ⟨bd, rfl, hdom, rfl⟩
  have Hdom : Hid _ := hdom
  clear hdom
  cases bd
  · go_wp2
    go_ret
    exact ⟨rfl, b0.out⟩
  go_wp2_with fail
  refine Calls.mono (clone_any ha h hcap W0 i0h.out r1) ?_
  rintro e w1 ⟨ao, cap1, rfl, row1, b1⟩
  have Row1 : Hid (RowAt w1 ao W0.heap.size h) := row1
  have B1 : Hid _ := b1
  clear row1 b1
  go_wp2_with fail
  refine Calls.mono (clone_any ka ks kcap w1 (i0k.out.below B1.out) r2) ?_
  rintro e w2 ⟨ko, cap2, rfl, row2, b2⟩
  have Row2 : Hid (RowAt w2 ko w1.heap.size ks) := row2
  have B2 : Hid _ := b2
  clear row2 b2
  go_wp2_with fail
  refine Calls.mono (copy_any m ko cap2 ks A L C hs w2 Row2.out.ints ((i0l.out.below B1.out).below B2.out) (by omega) HSh.out) ?_
  rintro e w3 ⟨m', A', L', C', hs', rfl, hl', hA', hm', hL', b3⟩
  have Hl' : Hid _ := hl'
  have HA' : Hid _ := hA'
  have Hm' : Hid _ := hm'
  have HL' : Hid _ := hL'
  have B3 : Hid _ := b3
  clear hl' hA' hm' hL' b3
  go_wp2_with fail
  refine Calls.mono (clone_any ao h cap1 w3 ((Row1.out.ints.below B2.out).below B3.out) r1) ?_
  rintro e w4 ⟨oo, cap4, rfl, row4, b4⟩
  have Row4 : Hid (RowAt w4 oo w3.heap.size h) := row4
  have B4 : Hid _ := b4
  clear row4 b4
  have hd : Hid (∀ x, DomAt h.length L' x) := fun x => domAll_of (Hdom.out trivial) HL'.out x
  have g1 : Hid (ao ≠ none → W0.heap.size < w1.heap.size) := fun hne => by
    have R1 := Row1.out
    rcases R1 with ⟨e, _⟩ | ⟨_, h, _⟩
    · exact absurd e hne
    · exact h
  have Rr4 : Hid (RowAt w4 ao W0.heap.size h) := ((Row1.out.below B2.out).below B3.out).below B4.out
  have hz : Hid _ := zz_any ao W0.heap.size cap1 ⟨h, g, t, false⟩ m' A' L' C' hs' w4 rfl Rr4.out (Hl'.out.below B4.out)
    (fun hne b hb => by have := Hm'.out b hb; have := g1.out hne; have := B2.out.size; omega)
    (fun hne x ad had => by have := HA'.out x ad had; have := g1.out hne; have := B2.out.size; omega) (by show h.length ≤ 65536; omega) hfit hd.out
  go_wp2_with fail
  refine Calls.mono hz.out ?_
  rintro e w5 ⟨rfl, row5, one5⟩
  have T5 : Hid (Tail w w5 h (finalSt L' ⟨h, g, t, false⟩) ao oo m' A' L' C' hs') := tail_of rfl b0.out B1.out B2.out B3.out B4.out Row1.out Row4.out Hl'.out HA'.out Hm'.out hd.out row5 one5
  clear row5 one5 hz Rr4 g1 hd B4 Row4 B3 HL' Hm' HA' Hl' B2 Row2 B1 Row1 Hdom i0l i0k i0h hW b0 HSh
  have hfin : finalSt L' ⟨h, g, t, false⟩ = ⟨h, g, t, false⟩ := by unfold finalSt; rw [if_pos hgz.out]
  rw [hfin] at T5 ⊢
  have qg : (g != 0) = false := by rw [hgz.out]; rfl
  have qt : (t != t) = false := by simp
  go_wp2_with fail
  have hn1 : h.length ≤ 65536 := by omega
  clear hg0 hfit qg qt hfin
  go_loopw [16] (fun iv w2 => ∃ (i d : Nat), i ≤ h.length ∧ iv = .int .i64 (i : Int) ∧ w2 = w5.drewN d) (fun iv _ => h.length - (intOf iv).toNat)
  case atStart => exact ⟨0, 0, Nat.zero_le _, rfl, rfl⟩
  case round =>
    obtain ⟨i, d, hi, rfl, rfl⟩ := hrel
    by_cases hil : i < h.length
    · have hW : IntsAt w5 ao h := T5.out.new
      have hO := T5.out.old
      rcases hW with hW | ⟨nb, no, rfl, hnb, hnc⟩
      · rw [hW] at hil; simp at hil
      · rcases hO with hO | ⟨ob, off, rfl, hob, hoc⟩
        · rw [hO] at hil; simp at hil
        · have rn := hnc i hil
          have ro := hoc i hil
          have hi0 : (0 : Int) ≤ (i : Int) := by omega
          have hi1 : (i : Int) < (h.length : Int) := by omega
          clear hnc hoc
          generalize h.getD i 0 = q at *
          have e' : (q != q) = false := by simp
          go_wp2_with fail
          go_quiet (fail)
          go_wp2_with fail
          go_roundw
          case rel => exact ⟨i + 1, _, by omega, by go_num, rfl⟩
          case measure => simp [intOf]; omega
    · go_wp2_with fail
      go_ret
      exact ⟨rfl, below_drewN T5.out.below d⟩

theorem cons_walk (ha ka : Option Addr) (hcap kcap : Nat) (h ks : List Int) (g t : Int) (m : Option Nat) (A : Int → Option Addr) (L : Int → List Int) (C : Int → Nat) (hs : Int → Bool) (w : World)
    (hh : IntsAt w ha h) (hk : IntsAt w ka ks) (hl : LinksAt w m A L C hs) (hfit : Fits h) (wt : -9223372036854775808 ≤ t ∧ t ≤ 9223372036854775807) (wg : -9223372036854775808 ≤ g ∧ g ≤ 9223372036854775807) :
    Calls Try.prog 7 #[.slice ha h.length hcap, .int .i64 g, .int .i64 t, .map m, .slice ka ks.length kcap] w (ConsPost w) := by
  by_cases hg : g = 0
  · exact cons_zero ha ka hcap kcap h ks g t m A L C hs w hh hk hl hfit (by simpa using hg) hg
  · exact cons_some ha ka hcap kcap h ks g t m A L C hs w hh hk hl hfit wt wg (by simpa using hg)
end Go.Proofs.Qxb6603019a
