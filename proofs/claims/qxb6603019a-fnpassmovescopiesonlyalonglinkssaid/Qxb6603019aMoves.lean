/-
  THE WALK of 'FnPassMovesCopiesOnlyAlongLinks' (function 8): it returns true.
-/
import Derived.Test.Qxb6603019aHead
namespace Go.Proofs.Qxb6603019a
open Go.RowKit

/-- The marks nr of the n nodes lie in the new row behind w5. -/
structure NearAt (w5 wr : World) (n : Nat) (nr : Nat → Bool) : Prop where
  cell : ∀ i, i < n → wr.cell? ⟨w5.heap.size, i, none⟩ = some (.bool (nr i))
  frozen : ∀ i, wr.frozen? ⟨w5.heap.size, i, none⟩ = false
  below : Below w5.heap.size w5 wr

theorem NearAt.start (w5 : World) (n : Nat) : NearAt w5 (w5.alloc (.cells (madeCells #[.bool false] n) 4)) n (fun _ => false) := by
  refine ⟨fun i hi => ?_, fun i => World.frozen?_alloc_at _ _ _ _ rfl, (Below.refl _ _).alloc (Nat.le_refl _) _⟩
  rw [World.cell?_alloc_at _ _ _ _ rfl, ← Array.getElem?_toList, toList_madeCells_one, List.getElem?_replicate, if_pos hi]

def mark (nr : Nat → Bool) (k : Nat) : Nat → Bool := fun i => nr i || i == k

theorem NearAt.set {w5 wr : World} {n : Nat} {nr : Nat → Bool} (h : NearAt w5 wr n nr) (k : Nat) (hk : k < n) : NearAt w5 (wr.setCell ⟨w5.heap.size, k, none⟩ (.bool true)) n (mark nr k) := by
  refine ⟨fun i hi => ?_, fun i => by rw [World.frozen?_setCell]; exact h.frozen i, h.below.setCell (Nat.le_refl _) _⟩
  by_cases e : k = i
  · subst e
    rw [World.cell?_setCell_same _ _ _ (h.cell _ hk)]
    simp [mark]
  · rw [World.cell?_setCell_other _ _ _ _ (fun c => e (by injection c)), h.cell i hi]
    have : (i == k) = false := by simp; exact fun c => e c.symm
    simp [mark, this]

/-- The link from x to y has left its marks. -/
def CovAt (hN : List Int) (n : Nat) (nr : Nat → Bool) (x : Nat) (y : Int) : Prop :=
  (x : Int) < y → y < n → (1 ≤ hN.getD y.toNat 0 → nr x = true) ∧ (1 ≤ hN.getD x 0 → nr y.toNat = true)
def CovTo (L : Int → List Int) (hN : List Int) (n : Nat) (nr : Nat → Bool) (k : Nat) : Prop := ∀ x, x < k → ∀ i, i < (L x).length → CovAt hN n nr x ((L x).getD i 0)
def CovRow (ls : List Int) (hN : List Int) (n : Nat) (nr : Nat → Bool) (k j : Nat) : Prop := ∀ i, i < j → CovAt hN n nr k (ls.getD i 0)

theorem CovAt.mark {hN : List Int} {n : Nat} {nr : Nat → Bool} {x : Nat} {y : Int} (h : CovAt hN n nr x y) (k : Nat) : CovAt hN n (mark nr k) x y := fun h1 h2 =>
  ⟨fun h3 => by simp [Qxb6603019a.mark, (h h1 h2).1 h3], fun h3 => by simp [Qxb6603019a.mark, (h h1 h2).2 h3]⟩
theorem CovTo.mark {L : Int → List Int} {hN : List Int} {n : Nat} {nr : Nat → Bool} {k : Nat} (h : CovTo L hN n nr k) (c : Nat) : CovTo L hN n (mark nr c) k := fun x hx i hi => (h x hx i hi).mark c
theorem CovRow.mark {ls : List Int} {hN : List Int} {n : Nat} {nr : Nat → Bool} {k j : Nat} (h : CovRow ls hN n nr k j) (c : Nat) : CovRow ls hN n (mark nr c) k j := fun i hi => (h i hi).mark c
theorem CovRow.step {ls : List Int} {hN : List Int} {n : Nat} {nr : Nat → Bool} {k j : Nat} (h : CovRow ls hN n nr k j) (hj : CovAt hN n nr k (ls.getD j 0)) : CovRow ls hN n nr k (j + 1) := fun i hi => by
  rcases Nat.lt_succ_iff_lt_or_eq.1 hi with hi | rfl
  · exact h i hi
  · exact hj
theorem CovTo.step {L : Int → List Int} {ls : List Int} {hN : List Int} {n : Nat} {nr : Nat → Bool} {k : Nat} (h : CovTo L hN n nr k) (hl : L k = ls) (hr : CovRow ls hN n nr k ls.length) : CovTo L hN n nr (k + 1) := fun x hx i hi => by
  rcases Nat.lt_succ_iff_lt_or_eq.1 hx with hx | rfl
  · exact h x hx i hi
  · rw [hl] at hi ⊢; exact hr i hi

theorem covAt_mk {hN : List Int} {n : Nat} {nr : Nat → Bool} {k yn : Nat} (h1 : 1 ≤ hN.getD yn 0 → nr k = true) (h2 : 1 ≤ hN.getD k 0 → nr yn = true) : CovAt hN n nr k (yn : Int) := fun _ _ => by
  rw [Int.toNat_natCast]; exact ⟨h1, h2⟩
theorem mark_same (nr : Nat → Bool) (k : Nat) : mark nr k k = true := by simp [mark]
theorem mark_kept {nr : Nat → Bool} {i : Nat} (h : nr i = true) (k : Nat) : mark nr k i = true := by simp [mark, h]

/-- A node near another that holds a copy bears a mark. -/
theorem CovTo.near {L : Int → List Int} {hN : List Int} {n : Nat} {nr : Nat → Bool} (h : CovTo L hN n nr n) (i : Nat) (hi : i < n) (hn : NearBy L n hN i) : nr i = true := by
  obtain ⟨j, hl, hp⟩ := hn
  rcases hl with ⟨h1, h2, h3⟩ | ⟨h1, h2, h3⟩
  · obtain ⟨c, hc, e⟩ := List.getElem_of_mem h3
    have := h i hi c hc
    simp [hc, e] at this
    exact (this (by omega) (by omega)).1 (by simpa using hp)
  · obtain ⟨c, hc, e⟩ := List.getElem_of_mem h3
    have := h j (by omega) c hc
    simp [hc, e] at this
    have := (this (by omega) (by omega)).2 (by simpa using hp)
    simpa using this

theorem moves_final (L : Int → List Int) (s0 : St) (hd : DomAll s0.h.length L) : ∀ i, i < s0.h.length → (finalSt L s0).h.getD i 0 = s0.h.getD i 0 ∨ NearBy L s0.h.length (finalSt L s0).h i := by
  unfold finalSt
  split
  · exact fun i _ => .inl rfl
  · exact moves_law L s0 s0.h.length rfl hd s0.h.length (Nat.le_refl _)

def MovesPost (w : World) (e : Ending) (w' : World) : Prop := e = .returned (.bool true) ∧ Below w.heap.size w w'

set_option maxRecDepth 100000 in
set_option maxHeartbeats 1600000 in
theorem moves_walk (ha ka : Option Addr) (hcap kcap : Nat) (h ks : List Int) (g t : Int) (m : Option Nat) (A : Int → Option Addr) (L : Int → List Int) (C : Int → Nat) (hs : Int → Bool) (w : World)
    (hh : IntsAt w ha h) (hk : IntsAt w ka ks) (hl : LinksAt w m A L C hs) (hfit : Fits h) :
    Calls Try.prog 8 #[.slice ha h.length hcap, .int .i64 g, .int .i64 t, .map m, .slice ka ks.length kcap] w (MovesPost w) := by
  obtain ⟨mn, hm⟩ := hl.map.len
  by_cases c1 : 65536 < h.length
  · have c1' : (65536 : Int) < (h.length : Int) := by omega
    go_enter Try.func8, Try.ntmps8
    go_wp2
    go_ret
    exact ⟨rfl, Below.refl _ _⟩
  by_cases c2 : 65536 < mn
  · have c2' : (65536 : Int) < (mn : Int) := by omega
    go_enter Try.func8, Try.ntmps8
    go_wp2
    go_ret
    exact ⟨rfl, Below.refl _ _⟩
  by_cases c3 : 65536 < ks.length
  · have c3' : (65536 : Int) < (ks.length : Int) := by omega
    go_enter Try.func8, Try.ntmps8
    go_wp2
    go_ret
    exact ⟨rfl, Below.refl _ _⟩
  have r1 : h.length * 8 ≤ 140737488351232 := by omega
  have r2 : ks.length * 8 ≤ 140737488351232 := by omega
  have d1 : decide ((65536 : Int) < (h.length : Int)) = false := decide_eq_false (by omega)
  have d2 : decide ((65536 : Int) < (mn : Int)) = false := decide_eq_false (by omega)
  have d3 : decide ((65536 : Int) < (ks.length : Int)) = false := decide_eq_false (by omega)
  have HB : Hid _ := bytes_any ha ka h.length hcap kcap ks m A L C hs w hk hl (by omega) (by omega)
  have HE : Hid _ := enum_any ka kcap ks m A L C hs w hk hl (by omega)
  go_enter Try.func8, Try.ntmps8
  go_wp2_with fail
  refine Calls.mono HB.out ?_
  rintro e w' ⟨tb, rfl, hsh, rfl⟩
  have Hsh : Hid (tb ≤ 1048576 → Short L ks ks.length) := hsh
  clear hsh
  by_cases ctb : 1048576 < tb
  · go_wp2
    go_ret
    exact ⟨rfl, Below.refl _ _⟩
  have dtb : decide (1048576 < tb) = false := decide_eq_false (by omega)
  have HSh : Hid (Short L ks ks.length) := Hsh.out (by omega)
  clear Hsh
  go_wp2_with fail
  refine Calls.mono HE.out ?_
  rintro e W0 ⟨be, rfl, n0, hW0⟩
  have HW0 : Hid _ := hW0
  clear hW0
  cases be
  · go_wp2
    go_ret
    exact ⟨rfl, by rw [HW0.out]; exact below_drewN (Below.refl _ _) _⟩
  have b0 : Hid (Below w.heap.size w W0) := by rw [HW0.out]; exact below_drewN (Below.refl _ _) _
  have hW : Hid (W0.heap.size = w.heap.size) := by rw [HW0.out]; rfl
  have i0h : Hid (IntsAt W0 ha h) := hh.below b0.out
  have i0k : Hid (IntsAt W0 ka ks) := hk.below b0.out
  have i0l : Hid (LinksAt W0 m A L C hs) := hl.below b0.out
  clear HB HE HW0 hm hh hk hl
  go_wp2_with fail
  refine Calls.mono (dom_any h.length ka kcap ks m A L C hs W0 i0k.out i0l.out (by omega)) ?_
  rintro e w' ⟨bd, rfl, hdom, rfl⟩
  have Hdom : Hid _ := hdom
  clear hdom
  cases bd
  · go_wp2
    go_ret
    exact ⟨rfl, b0.out⟩
  go_wp2_with fail
  refine Calls.mono (clone_any ha h hcap W0 i0h.out r1) ?_
  rintro e w1 ⟨ao, cap1, rfl, row1, b1⟩
  have Row1 : Hid (RowAt w1 ao W0.heap.size h) := row1
  have B1 : Hid _ := b1
  clear row1 b1
  go_wp2_with fail
  refine Calls.mono (clone_any ka ks kcap w1 (i0k.out.below B1.out) r2) ?_
  rintro e w2 ⟨ko, cap2, rfl, row2, b2⟩
  have Row2 : Hid (RowAt w2 ko w1.heap.size ks) := row2
  have B2 : Hid _ := b2
  clear row2 b2
  go_wp2_with fail
  refine Calls.mono (copy_any m ko cap2 ks A L C hs w2 Row2.out.ints ((i0l.out.below B1.out).below B2.out) (by omega) HSh.out) ?_
  rintro e w3 ⟨m', A', L', C', hs', rfl, hl', hA', hm', hL', b3⟩
  have Hl' : Hid _ := hl'
  have HA' : Hid _ := hA'
  have Hm' : Hid _ := hm'
  have HL' : Hid _ := hL'
  have B3 : Hid _ := b3
  clear hl' hA' hm' hL' b3
  go_wp2_with fail
  refine Calls.mono (clone_any ao h cap1 w3 ((Row1.out.ints.below B2.out).below B3.out) r1) ?_
  rintro e w4 ⟨oo, cap4, rfl, row4, b4⟩
  have Row4 : Hid (RowAt w4 oo w3.heap.size h) := row4
  have B4 : Hid _ := b4
  clear row4 b4
  have hd : Hid (∀ x, DomAt h.length L' x) := fun x => domAll_of (Hdom.out trivial) HL'.out x
  have g1 : Hid (ao ≠ none → W0.heap.size < w1.heap.size) := fun hne => by
    have R1 := Row1.out
    rcases R1 with ⟨e, _⟩ | ⟨_, h, _⟩
    · exact absurd e hne
    · exact h
  have Rr4 : Hid (RowAt w4 ao W0.heap.size h) := ((Row1.out.below B2.out).below B3.out).below B4.out
  have hz : Hid _ := zz_any ao W0.heap.size cap1 ⟨h, g, t, false⟩ m' A' L' C' hs' w4 rfl Rr4.out (Hl'.out.below B4.out)
    (fun hne b hb => by have := Hm'.out b hb; have := g1.out hne; have := B2.out.size; omega)
    (fun hne x ad had => by have := HA'.out x ad had; have := g1.out hne; have := B2.out.size; omega) (by show h.length ≤ 65536; omega) hfit hd.out
  go_wp2_with fail
  refine Calls.mono hz.out ?_
  rintro e w5 ⟨rfl, row5, one5⟩
  have T5 : Hid (Tail w w5 h (finalSt L' ⟨h, g, t, false⟩) ao oo m' A' L' C' hs') := tail_of rfl b0.out B1.out B2.out B3.out B4.out Row1.out Row4.out Hl'.out HA'.out Hm'.out hd.out row5 one5
  clear row5 one5 hz Rr4 g1 hd B4 Row4 B3 HL' Hm' HA' Hl' B2 Row2 B1 Row1 Hdom i0l i0k i0h hW b0 HSh
  have hpl : Hid (∀ i, i < h.length → (finalSt L' ⟨h, g, t, false⟩).h.getD i 0 = h.getD i 0 ∨ NearBy L' h.length (finalSt L' ⟨h, g, t, false⟩).h i) := moves_final L' ⟨h, g, t, false⟩ T5.out.dom
  generalize finalSt L' ⟨h, g, t, false⟩ = s' at *
  have hsl : s'.h.length = h.length := T5.out.len
  have hmk := fun w => run_make_row' (P := Try.prog) 53 4 (.bool false) 1 Try.underlying53 info4 rfl .i64 .i64 h.length (by omega) (by omega) w
  go_wp2_with fail
  have HS : Hid _ := hsl
  clear hmk hsl
  have hn1 : h.length ≤ 65536 := by omega
  generalize hnn : h.length = n at *
  have Hn : Hid _ := hnn
  clear hnn
  go_loopw [18] (fun i wr => ∃ (k : Nat) (nr : Nat → Bool), k ≤ n ∧ i = .int .i64 (k : Int) ∧ NearAt w5 wr n nr ∧ CovTo L' s'.h n nr k) (fun i _ => n - (intOf i).toNat)
  case atStart => exact ⟨0, fun _ => false, Nat.zero_le _, rfl, NearAt.start w5 n, fun x hx => absurd hx (Nat.not_lt_zero _)⟩
  case round =>
    obtain ⟨k, nr, hkn, rfl, hN, hC⟩ := hrel
    have HN : Hid _ := hN
    have HC : Hid (CovTo L' s'.h n nr k) := hC
    clear hN hC
    by_cases hlt : k < n
    · have hlook := (T5.out.links.below HN.out.below).look k
      go_wp2_with fail
      clear hlook
      have hlz := T5.out.links.len k
      have HI : Hid (IntsAt w5 (A' k) (L' k)) := T5.out.links.ints k
      have HL : Hid (L' k = L' k) := rfl
      generalize hls : L' k = ls at *
      have HLs : Hid (L' k = ls) := hls
      clear hls HL
      generalize A' k = ad at *
      generalize C' k = cc at *
      go_loopw [20] (fun jv w2 => ∃ (j : Nat) (nr : Nat → Bool), j ≤ ls.length ∧ jv = .int .i64 (j : Int) ∧ NearAt w5 w2 n nr ∧ CovTo L' s'.h n nr k ∧ CovRow ls s'.h n nr k j) (fun jv _ => ls.length - (intOf jv).toNat)
      case atStart => exact ⟨0, nr, Nat.zero_le _, rfl, HN.out, HC.out, fun x hx => absurd hx (Nat.not_lt_zero _)⟩
      case round =>
        clear HN HC
        obtain ⟨j, nr, hj, rfl, hN, hC, hR⟩ := hrel
        have HN : Hid _ := hN
        have HC : Hid (CovTo L' s'.h n nr k) := hC
        have HR : Hid (CovRow ls s'.h n nr k j) := hR
        clear hN hC hR
        by_cases hjl : j < ls.length
        · have hI := HI.out
          rcases hI with hI | ⟨lb, lo, rfl, hlb, hlc⟩
          · subst hI; simp at hjl
          · have hcl : wr.cell? ⟨lb, lo + j, none⟩ = some (.int .i64 (ls.getD j 0)) := by
              rw [HN.out.below.cell (p := ⟨lb, lo + j, none⟩) hlb]; exact hlc j hjl
            have hst : Hid (∀ nr', CovRow ls s'.h n nr' k j → CovAt s'.h n nr' k (ls.getD j 0) → CovRow ls s'.h n nr' k (j + 1)) := fun nr' a b => a.step b
            clear hlc
            generalize ls.getD j 0 = y at *
            by_cases y1 : y ≤ k
            · go_wp2_with fail
              go_roundw
              case rel => exact ⟨j + 1, nr, by omega, by go_num, HN.out, HC.out, hst.out nr HR.out (fun c _ => by omega)⟩
              case measure => simp [intOf]; omega
            · by_cases y2 : (n : Int) ≤ y
              · go_wp2_with fail
                go_roundw
                case rel => exact ⟨j + 1, nr, by omega, by go_num, HN.out, HC.out, hst.out nr HR.out (fun _ c => by omega)⟩
                case measure => simp [intOf]; omega
              · obtain ⟨yn, rfl⟩ := Int.eq_ofNat_of_zero_le (show 0 ≤ y by omega)
                have hyn : yn < n := by omega
                have hky : k < yn := by omega
                have hW := T5.out.new
                rcases hW with hW | ⟨nb, no, rfl, hnb, hnc⟩
                · have := HS.out; rw [hW] at this; simp at this; omega
                · have ry : wr.cell? ⟨nb, no + yn, none⟩ = some (.int .i64 (s'.h.getD yn 0)) := by
                    rw [HN.out.below.cell (p := ⟨nb, no + yn, none⟩) hnb]; exact hnc yn (by rw [HS.out]; exact hyn)
                  have rk : wr.cell? ⟨nb, no + k, none⟩ = some (.int .i64 (s'.h.getD k 0)) := by
                    rw [HN.out.below.cell (p := ⟨nb, no + k, none⟩) hnb]; exact hnc k (by rw [HS.out]; exact hlt)
                  have nk := HN.out.cell k hlt
                  have ny := HN.out.cell yn hyn
                  have fk := HN.out.frozen k
                  have fy := HN.out.frozen yn
                  have hne : nb ≠ w5.heap.size := by omega
                  have hcv : Hid (∀ nr' : Nat → Bool, (1 ≤ s'.h.getD yn 0 → nr' k = true) → (1 ≤ s'.h.getD k 0 → nr' yn = true) → CovAt s'.h n nr' k (yn : Int)) := fun nr' a b => covAt_mk a b
                  clear hnc
                  generalize s'.h.getD yn 0 = p at *
                  generalize s'.h.getD k 0 = q at *
                  by_cases p1 : 1 ≤ p
                  · by_cases q1 : 1 ≤ q
                    · have n2 : Hid _ := (HN.out.set k hlt).set yn hyn
                      go_wp2_with fail
                      go_roundw
                      case rel => exact ⟨j + 1, _, by omega, by go_num, n2.out, (HC.out.mark k).mark yn, hst.out _ ((HR.out.mark k).mark yn) (hcv.out _ (fun _ => mark_kept (mark_same _ _) _) (fun _ => mark_same _ _))⟩
                      case measure => simp [intOf]; omega
                    · have n2 : Hid _ := HN.out.set k hlt
                      go_wp2_with fail
                      go_roundw
                      case rel => exact ⟨j + 1, _, by omega, by go_num, n2.out, HC.out.mark k, hst.out _ (HR.out.mark k) (hcv.out _ (fun _ => mark_same _ _) (fun c => absurd c q1))⟩
                      case measure => simp [intOf]; omega
                  · by_cases q1 : 1 ≤ q
                    · have n2 : Hid _ := HN.out.set yn hyn
                      go_wp2_with fail
                      go_roundw
                      case rel => exact ⟨j + 1, _, by omega, by go_num, n2.out, HC.out.mark yn, hst.out _ (HR.out.mark yn) (hcv.out _ (fun c => absurd c p1) (fun _ => mark_same _ _))⟩
                      case measure => simp [intOf]; omega
                    · go_wp2_with fail
                      go_roundw
                      case rel => exact ⟨j + 1, nr, by omega, by go_num, HN.out, HC.out, hst.out _ HR.out (hcv.out _ (fun c => absurd c p1) (fun c => absurd c q1))⟩
                      case measure => simp [intOf]; omega
        · obtain rfl : j = ls.length := by omega
          go_wp2_with fail
          go_roundw
          case rel => exact ⟨k + 1, nr, by omega, by go_num, HN.out, HC.out.step HLs.out HR.out⟩
          case measure => simp [intOf]; omega
    · obtain rfl : k = n := by omega
      go_wp2_with fail
      have hnr : Hid (∀ i, i < k → s'.h.getD i 0 = h.getD i 0 ∨ nr i = true) := fun i hi => by
        rcases hpl.out i hi with hb | hb
        · exact Or.inl hb
        · exact Or.inr (HC.out.near i hi hb)
      generalize wr = w6 at *
      go_loopw [22] (fun iv w2 => ∃ (i d : Nat), i ≤ k ∧ iv = .int .i64 (i : Int) ∧ w2 = w6.drewN d) (fun iv _ => k - (intOf iv).toNat)
      case atStart => exact ⟨0, 0, Nat.zero_le _, rfl, rfl⟩
      case round =>
        obtain ⟨i, d, hi, rfl, rfl⟩ := hrel
        by_cases hil : i < k
        · have hor := hnr.out i hil
          have hW := T5.out.new
          have hO := T5.out.old
          rcases hW with hW | ⟨nb, no, rfl, hnb, hnc⟩
          · have := HS.out; rw [hW] at this; simp at this; omega
          · rcases hO with hO | ⟨ob, off, rfl, hob, hoc⟩
            · have := Hn.out; rw [hO] at this; simp at this; omega
            · have rn : w6.cell? ⟨nb, no + i, none⟩ = some (.int .i64 (s'.h.getD i 0)) := by
                rw [HN.out.below.cell (p := ⟨nb, no + i, none⟩) hnb]; exact hnc i (by rw [HS.out]; exact hil)
              have ro : w6.cell? ⟨ob, off + i, none⟩ = some (.int .i64 (h.getD i 0)) := by
                rw [HN.out.below.cell (p := ⟨ob, off + i, none⟩) hob]; exact hoc i (by rw [Hn.out]; exact hil)
              have nk := HN.out.cell i hil
              have hi0 : (0 : Int) ≤ (i : Int) := by omega
              have hi1 : (i : Int) < (k : Int) := by omega
              clear hnc hoc
              generalize s'.h.getD i 0 = p at *
              generalize h.getD i 0 = q at *
              by_cases e : p = q
              · have e' : (p != q) = false := by simp [e]
                clear e hor
                go_wp2_with fail
                go_quiet (fail)
                go_wp2_with fail
                go_roundw
                case rel => exact ⟨i + 1, _, by omega, by go_num, rfl⟩
                case measure => simp [intOf]; omega
              · have e' : (p != q) = true := by simp [e]
                have hm : nr i = true := by simpa [e] using hor
                rw [hm] at nk
                clear e hor hm
                go_wp2_with fail
                go_quiet (fail)
                go_wp2_with fail
                go_roundw
                case rel => exact ⟨i + 1, _, by omega, by go_num, rfl⟩
                case measure => simp [intOf]; omega
        · go_wp2_with fail
          go_ret
          exact ⟨rfl, below_drewN (T5.out.below.trans (HN.out.below.mono T5.out.below.size)) d⟩
end Go.Proofs.Qxb6603019a
