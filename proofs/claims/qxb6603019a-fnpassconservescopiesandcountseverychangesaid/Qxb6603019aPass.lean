/-
  'Of' (37) and 'pass' (34): the transfers of one sample, as a fold of plain steps.
-/
import Derived.Test.Qxb6603019aGuards
import Derived.Test.Qxb6603019aHand
namespace Go.Proofs.Qxb6603019a
open Go.RowKit

/-- The object's state: what the nodes hold, the counters, and whether something moved. -/
structure St where
  h : List Int
  g : Int
  t : Int
  m : Bool

def stepP (a : Nat) (s : St) (b : Int) : St :=
  if b < a then s
  else if 1 < s.h.getD a 0 ∧ s.h.getD b.toNat 0 = 0 then ⟨handH s.h a b.toNat, handG (s.h.getD a 0) s.g, wrap64 (s.t + 1), true⟩
  else if 1 < s.h.getD b.toNat 0 ∧ s.h.getD a 0 = 0 then ⟨handH s.h b.toNat a, handG (s.h.getD b.toNat 0) s.g, wrap64 (s.t + 1), true⟩
  else s

def rowP (L : Int → List Int) (s : St) (a : Nat) : St := (L a).foldl (stepP a) s
def passP (L : Int → List Int) (s : St) (k : Nat) : St := (List.range k).foldl (rowP L) s

theorem handH_length (h : List Int) (a b : Nat) : (handH h a b).length = h.length := by simp [handH]
theorem stepP_length (a : Nat) (s : St) (b : Int) : (stepP a s b).h.length = s.h.length := by
  unfold stepP
  split
  · rfl
  · split
    · exact handH_length _ _ _
    · split
      · exact handH_length _ _ _
      · rfl
theorem foldl_length (a : Nat) : ∀ (l : List Int) (s : St), (l.foldl (stepP a) s).h.length = s.h.length
  | [], _ => rfl
  | b :: l, s => by rw [List.foldl_cons, foldl_length a l, stepP_length]
theorem passP_succ (L : Int → List Int) (s : St) (k : Nat) : passP L s (k + 1) = (L k).foldl (stepP k) (passP L s k) := by
  simp [passP, List.range_succ, rowP]
theorem passP_length (L : Int → List Int) (s : St) : ∀ k, (passP L s k).h.length = s.h.length
  | 0 => rfl
  | k + 1 => by rw [passP_succ, foldl_length, passP_length L s k]
theorem foldl_take (a : Nat) (l : List Int) (s : St) (j : Nat) (hj : j < l.length) : (l.take (j + 1)).foldl (stepP a) s = stepP a ((l.take j).foldl (stepP a) s) (l.getD j 0) := by
  rw [List.take_succ_eq_append_getElem hj, List.foldl_append]
  simp [hj]

/-- Every count fits an int. -/
def Fits (h : List Int) : Prop := ∀ j, h.getD j 0 ≤ 9223372036854775807

theorem handH_at (h : List Int) (a b j : Nat) (ha : a < h.length) (hb : b < h.length) : (handH h a b).getD j 0 = if j = b then h.getD a 0 / 2 else if j = a then h.getD a 0 - h.getD a 0 / 2 else h.getD j 0 := by
  simp only [handH, List.getD_eq_getElem?_getD, List.getElem?_set, List.length_set]
  by_cases e : b = j
  · subst e; simp [hb]
  · by_cases e2 : a = j
    · subst e2
      simp [e, Ne.symm e, ha]
    · simp [e, e2, Ne.symm e, Ne.symm e2]

theorem Fits.hand {h : List Int} (f : Fits h) (a b : Nat) (ha : a < h.length) (hb : b < h.length) (hx : 1 < h.getD a 0) : Fits (handH h a b) := fun j => by
  rw [handH_at h a b j ha hb]
  have := f a
  have := f j
  split
  · omega
  · split <;> omega

theorem Fits.step {a : Nat} {s : St} (f : Fits s.h) (b : Int) (ha : a < s.h.length) (hb : (a : Int) ≤ b → b < s.h.length) : Fits (stepP a s b).h := by
  unfold stepP
  split
  · exact f
  · have hb' : b.toNat < s.h.length := by have := hb (by omega); omega
    split
    · rename_i c; exact f.hand a b.toNat ha hb' c.1
    · split
      · rename_i c; exact f.hand b.toNat a hb' ha c.1
      · exact f

theorem LinksAt.two {w w' : World} {m : Option Nat} {A : Int → Option Addr} {L : Int → List Int} {C : Int → Nat} {hs : Int → Bool} {O gh : Nat} (h : LinksAt w m A L C hs) (k : Two w w' O gh)
    (hm : ∀ b, m = some b → b ≠ O ∧ b ≠ gh) (hA : ∀ x ad, A x = some ad → L x ≠ [] → ad.block ≠ O ∧ ad.block ≠ gh) : LinksAt w' m A L C hs :=
  ⟨h.map.kept (by rw [k.size]; exact Nat.le_refl _) fun b e _ => k.block b (hm b e).1 (hm b e).2, h.off,
   fun x => by
    by_cases hx : L x = []
    · exact .inl hx
    · exact (h.ints x).kept (by rw [k.size]; exact Nat.le_refl _) fun b off e _ => k.block b (hA x _ e hx).1 (hA x _ e hx).2, h.len⟩

theorem of_any (K : Nat) (m : Option Nat) (A : Int → Option Addr) (L : Int → List Int) (C : Int → Nat) (hs : Int → Bool) (x : Int) (w : World) (hl : LinksAt w m A L C hs) (hK : w.cell? ⟨K, 0, none⟩ = some (.map m)) :
    Calls Try.prog 37 #[.pointer (some ⟨K, 0, none⟩), .int .i64 x] w fun e w' => e = .returned (.slice (A x) (L x).length (C x)) ∧ w = w' := by
  have hlook := hl.look x
  go_enter Try.func37, Try.ntmps37
  go_wp2
  go_ret
  exact ⟨rfl, rfl⟩

theorem pass_zero (O K : Nat) (g : Int) (hg : g = 0) (w : World) (c1 : w.cell? ⟨O, 1, none⟩ = some (.int .i64 g)) :
    Calls Try.prog 34 #[.pointer (some ⟨O, 0, none⟩), .pointer (some ⟨K, 0, none⟩)] w fun e w' => e = .returned (.bool false) ∧ w = w' := by
  subst hg
  go_enter Try.func34, Try.ntmps34
  go_wp2
  go_ret
  exact ⟨rfl, rfl⟩

theorem pass_empty (O K : Nat) (a : Option Addr) (cap : Nat) (g : Int) (hg : (g == 0) = false) (w : World) (c0 : w.cell? ⟨O, 0, none⟩ = some (.slice a 0 cap)) (c1 : w.cell? ⟨O, 1, none⟩ = some (.int .i64 g)) :
    Calls Try.prog 34 #[.pointer (some ⟨O, 0, none⟩), .pointer (some ⟨K, 0, none⟩)] w fun e w' => e = .returned (.bool false) ∧ w = w' := by
  go_enter Try.func34, Try.ntmps34
  go_wp2
  refine wp_loop_rounds 1 ?_
  rw [rounds_succ]
  go_wp2
  go_ret
  exact ⟨rfl, rfl⟩

theorem stepP_lt {a : Nat} {s : St} {b : Int} (h : b < a) : stepP a s b = s := by simp [stepP, h]
theorem stepP_ab {a b : Nat} {s : St} (h : a ≤ b) (h1 : 1 < s.h.getD a 0) (h2 : s.h.getD b 0 = 0) : stepP a s b = ⟨handH s.h a b, handG (s.h.getD a 0) s.g, wrap64 (s.t + 1), true⟩ := by
  unfold stepP
  rw [if_neg (by omega), Int.toNat_natCast, if_pos ⟨h1, h2⟩]
theorem stepP_ba {a b : Nat} {s : St} (h : a ≤ b) (h1 : ¬ (1 < s.h.getD a 0 ∧ s.h.getD b 0 = 0)) (h2 : 1 < s.h.getD b 0) (h3 : s.h.getD a 0 = 0) : stepP a s b = ⟨handH s.h b a, handG (s.h.getD b 0) s.g, wrap64 (s.t + 1), true⟩ := by
  unfold stepP
  rw [if_neg (by omega), Int.toNat_natCast, if_neg h1, if_pos ⟨h2, h3⟩]
theorem stepP_no {a b : Nat} {s : St} (h : a ≤ b) (h1 : ¬ (1 < s.h.getD a 0 ∧ s.h.getD b 0 = 0)) (h2 : ¬ (1 < s.h.getD b 0 ∧ s.h.getD a 0 = 0)) : stepP a s b = s := by
  unfold stepP
  rw [if_neg (by omega), Int.toNat_natCast, if_neg h1, if_neg h2]

/-- What holds of the world between two steps of 'pass'. -/
structure PassAt (w wr : World) (O gh cap : Nat) (s : St) : Prop where
  spray : SprayAt wr O gh cap s.h s.g s.t
  two : Two w wr O gh
  fits : Fits s.h

set_option maxRecDepth 100000 in
set_option maxHeartbeats 1600000 in
theorem pass_any (O K gh cap : Nat) (s0 : St) (m : Option Nat) (A : Int → Option Addr) (L : Int → List Int) (C : Int → Nat) (hs : Int → Bool) (w : World)
    (hg : (s0.g == 0) = false) (hm0 : s0.m = false) (P0 : PassAt w w O gh cap s0) (hl : LinksAt w m A L C hs) (hK : w.cell? ⟨K, 0, none⟩ = some (.map m)) (hKO : K ≠ O) (hKg : K ≠ gh)
    (hm : ∀ b, m = some b → b ≠ O ∧ b ≠ gh) (hA : ∀ x ad, A x = some ad → L x ≠ [] → ad.block ≠ O ∧ ad.block ≠ gh)
    (hlen : s0.h.length ≤ 65536) (hdom : ∀ x, DomAt s0.h.length L x) :
    Calls Try.prog 34 #[.pointer (some ⟨O, 0, none⟩), .pointer (some ⟨K, 0, none⟩)] w fun e w' =>
      e = .returned (.bool (passP L s0 s0.h.length).m) ∧ PassAt w w' O gh cap (passP L s0 s0.h.length) := by
  have c0 := P0.spray.c0
  have c1 := P0.spray.c1
  have HK : Hid (∀ wr, Two w wr O gh → wr.cell? ⟨K, 0, none⟩ = some (.map m)) := fun wr h => by
    rw [World.cell?_of_block (w := w) (a := ⟨K, 0, none⟩) (h.block K hKO hKg)]; exact hK
  have HL : Hid (∀ wr, Two w wr O gh → LinksAt wr m A L C hs) := fun wr h => hl.two h hm hA
  have HD : Hid (∀ x, DomAt s0.h.length L x) := hdom
  have HP0 : Hid _ := P0
  have hLlen := hl.len
  clear P0 hdom hl hK hm hA
  generalize hn : s0.h.length = n at *
  have Hn : Hid (s0.h.length = n) := hn
  clear hn
  go_enter Try.func34, Try.ntmps34
  go_wp2
  clear c0 c1 hg
  go_loopw [5, 19] (fun mv i wr => ∃ k : Nat, k ≤ n ∧ i = .int .i64 (k : Int) ∧ mv = .bool (passP L s0 k).m ∧ PassAt w wr O gh cap (passP L s0 k)) (fun _ i _ => n - (intOf i).toNat)
  case atStart => exact ⟨0, Nat.zero_le _, rfl, by simp [passP, hm0], HP0.out⟩
  case round =>
    obtain ⟨k, hkn, rfl, rfl, hP⟩ := hrel
    by_cases hlt : k < n
    · have hlk := HL.out wr hP.two
      have of := of_any K m A L C hs k wr hlk (HK.out wr hP.two)
      have HOf : Hid _ := of
      have HI : Hid (∀ wr, Two w wr O gh → IntsAt wr (A k) (L k)) := fun wr h => (HL.out wr h).ints k
      have hlz := hLlen k
      have HDk : Hid (∀ j, j < (L k).length → (L k).getD j 0 < n) := fun j hj => HD.out k (by omega) (by omega) j hj
      have hsl : (passP L s0 k).h.length = n := (passP_length L s0 k).trans Hn.out
      have hsucc := passP_succ L s0 k
      have Hsucc : Hid _ := hsucc
      clear of hlk hsucc hLlen
      generalize passP L s0 k = s at *
      generalize L k = ls at *
      generalize A k = ad at *
      generalize C k = cc at *
      have Hsl : Hid _ := hsl
      clear hsl
      have hPH : Hid _ := hP
      clear hP
      go_wp2_with fail
      refine Calls.mono HOf.out ?_
      rintro e w' ⟨rfl, rfl⟩
      go_wp2_with fail
      go_loopw [5, 26] (fun mv i w2 => ∃ j : Nat, j ≤ ls.length ∧ i = .int .i64 (j : Int) ∧ mv = .bool ((ls.take j).foldl (stepP k) s).m ∧ PassAt w w2 O gh cap ((ls.take j).foldl (stepP k) s)) (fun _ i _ => ls.length - (intOf i).toNat)
      case atStart => exact ⟨0, Nat.zero_le _, rfl, by simp, hPH.out⟩
      case round =>
        obtain ⟨j, hj, rfl, rfl, hP⟩ := hrel
        by_cases hjl : j < ls.length
        · have hft : Hid _ := foldl_take k ls s j hjl
          have hsl : Hid (((ls.take j).foldl (stepP k) s).h.length = n) := (foldl_length k _ s).trans Hsl.out
          have hbn := HDk.out j hjl
          generalize (ls.take j).foldl (stepP k) s = s1 at *
          have hI := HI.out _ hP.two
          rcases hI with hI | ⟨lb, lo, rfl, hlb, hlc⟩
          · subst hI; simp at hjl
          · have hcl := hlc j hjl
            clear hlc
            generalize ls.getD j 0 = b at *
            have hP1 : Hid _ := hP
            clear hP
            by_cases hbk : b < k
            · rw [stepP_lt hbk] at hft
              go_wp2_with fail
              go_roundw
              case rel => exact ⟨j + 1, by omega, by go_num, by rw [hft.out], by rw [hft.out]; exact hP1.out⟩
              case measure => simp [intOf]; omega
            · obtain ⟨bn, rfl⟩ := Int.eq_ofNat_of_zero_le (show 0 ≤ b by omega)
              have hbn' : bn < n := by omega
              have hkb : k ≤ bn := by omega
              have c0 := hP1.out.spray.c0
              have ra := hP1.out.spray.row k (by rw [hsl.out]; exact hlt)
              have rb := hP1.out.spray.row bn (by rw [hsl.out]; exact hbn')
              rw [hsl.out] at c0
              have hfx := hP1.out.fits
              by_cases x1 : 1 < s1.h.getD k 0
              · by_cases y0 : s1.h.getD bn 0 = 0
                · rw [stepP_ab hkb x1 y0] at hft
                  have hne : k ≠ bn := fun e => by rw [← e] at y0; omega
                  have hnd : Hid _ := hand_any O gh cap s1.h s1.g s1.t k bn wr hP1.out.spray (by rw [hsl.out]; exact hlt) (by rw [hsl.out]; exact hbn') hne x1 (hfx k) (by rw [hsl.out]; exact hlen)
                  have hfh : Hid _ := hfx.hand k bn (by rw [hsl.out]; exact hlt) (by rw [hsl.out]; exact hbn') x1
                  rw [y0] at rb
                  clear hfx y0
                  generalize s1.h.getD k 0 = x at *
                  go_wp2_with fail
                  refine Calls.mono hnd.out ?_
                  rintro e w' ⟨rfl, hsp, htw⟩
                  have Hsp : Hid _ := hsp
                  clear hsp
                  go_wp2_with fail
                  go_roundw
                  case rel => exact ⟨j + 1, by omega, by go_num, by rw [hft.out], by rw [hft.out]; exact ⟨Hsp.out, hP1.out.two.trans htw, hfh.out⟩⟩
                  case measure => simp [intOf]; omega
                · rw [stepP_no hkb (fun c => y0 c.2) (fun c => by omega)] at hft
                  clear hfx
                  generalize s1.h.getD k 0 = x at *
                  generalize s1.h.getD bn 0 = y at *
                  have y0' : (y == 0) = false := by simpa using y0
                  have x0' : (x == 0) = false := by simp; omega
                  clear y0
                  by_cases y1 : 1 < y
                  · go_wp2_with fail
                    go_roundw
                    case rel => exact ⟨j + 1, by omega, by go_num, by rw [hft.out], by rw [hft.out]; exact hP1.out⟩
                    case measure => simp [intOf]; omega
                  · go_wp2_with fail
                    go_roundw
                    case rel => exact ⟨j + 1, by omega, by go_num, by rw [hft.out], by rw [hft.out]; exact hP1.out⟩
                    case measure => simp [intOf]; omega
              · have n1 : ¬ (1 < s1.h.getD k 0 ∧ s1.h.getD bn 0 = 0) := fun c => x1 c.1
                by_cases y1 : 1 < s1.h.getD bn 0
                · by_cases x0 : s1.h.getD k 0 = 0
                  · rw [stepP_ba hkb n1 y1 x0] at hft
                    have hne : bn ≠ k := fun e => by rw [e] at y1; omega
                    have hnd : Hid _ := hand_any O gh cap s1.h s1.g s1.t bn k wr hP1.out.spray (by rw [hsl.out]; exact hbn') (by rw [hsl.out]; exact hlt) hne y1 (hfx bn) (by rw [hsl.out]; exact hlen)
                    have hfh : Hid _ := hfx.hand bn k (by rw [hsl.out]; exact hbn') (by rw [hsl.out]; exact hlt) y1
                    rw [x0] at ra
                    clear hfx x0 x1 n1
                    generalize s1.h.getD bn 0 = y at *
                    go_wp2_with fail
                    refine Calls.mono hnd.out ?_
                    rintro e w' ⟨rfl, hsp, htw⟩
                    have Hsp : Hid _ := hsp
                    clear hsp
                    go_wp2_with fail
                    go_roundw
                    case rel => exact ⟨j + 1, by omega, by go_num, by rw [hft.out], by rw [hft.out]; exact ⟨Hsp.out, hP1.out.two.trans htw, hfh.out⟩⟩
                    case measure => simp [intOf]; omega
                  · rw [stepP_no hkb n1 (fun c => x0 c.2)] at hft
                    clear hfx n1
                    generalize s1.h.getD k 0 = x at *
                    generalize s1.h.getD bn 0 = y at *
                    have x0' : (x == 0) = false := by simpa using x0
                    clear x0
                    go_wp2_with fail
                    go_roundw
                    case rel => exact ⟨j + 1, by omega, by go_num, by rw [hft.out], by rw [hft.out]; exact hP1.out⟩
                    case measure => simp [intOf]; omega
                · rw [stepP_no hkb n1 (fun c => y1 c.1)] at hft
                  clear hfx n1
                  generalize s1.h.getD k 0 = x at *
                  generalize s1.h.getD bn 0 = y at *
                  go_wp2_with fail
                  go_roundw
                  case rel => exact ⟨j + 1, by omega, by go_num, by rw [hft.out], by rw [hft.out]; exact hP1.out⟩
                  case measure => simp [intOf]; omega
        · obtain rfl : j = ls.length := by omega
          rw [List.take_length] at hP ⊢
          rw [← Hsucc.out] at hP ⊢
          go_wp2_with fail
          go_roundw
          case rel => exact ⟨k + 1, by omega, by go_num, rfl, hP⟩
          case measure => simp [intOf]; omega
    · obtain rfl : k = n := by omega
      go_wp2
      go_ret
      exact ⟨rfl, hP⟩
end Go.Proofs.Qxb6603019a
