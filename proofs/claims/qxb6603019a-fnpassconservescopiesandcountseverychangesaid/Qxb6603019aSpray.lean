/-
  'ZZSprayedPass' (29): the object is built, 'pass' is called, its fields are handed back.
-/
import Derived.Test.Qxb6603019aPass
import Derived.Test.Qxb6603019aCopy
namespace Go.Proofs.Qxb6603019a
open Go.RowKit

/-- The slice that begins at ao holds h in its own row gh, which may be written (or it is nil, and h is empty). -/
def RowAt (w : World) (ao : Option Addr) (gh : Nat) (h : List Int) : Prop :=
  (ao = none ∧ h = []) ∨ (ao = some ⟨gh, 0, none⟩ ∧ gh < w.heap.size ∧ (∀ j, j < h.length → w.cell? ⟨gh, j, none⟩ = some (.int .i64 (h.getD j 0))) ∧ ∀ j, w.frozen? ⟨gh, j, none⟩ = false)

theorem RowAt.ints {w : World} {ao : Option Addr} {gh : Nat} {h : List Int} (r : RowAt w ao gh h) : IntsAt w ao h := by
  rcases r with ⟨_, h2⟩ | ⟨rfl, h1, h2, _⟩
  · exact .inl h2
  · exact .inr ⟨gh, 0, rfl, h1, fun j hj => by rw [Nat.zero_add]; exact h2 j hj⟩

/-- Below w's own size the block gh alone has turned (nothing at all where ao is nil). -/
structure One (w w' : World) (ao : Option Addr) (gh : Nat) : Prop where
  os : w'.os = w.os
  tape : w'.tape = w.tape
  output : w'.output = w.output
  size : w.heap.size ≤ w'.heap.size
  block : ∀ k, k < w.heap.size → (ao = none ∨ k ≠ gh) → w'.heap[k]? = w.heap[k]?

def finalSt (L : Int → List Int) (s0 : St) : St := if s0.g = 0 then s0 else passP L s0 s0.h.length

def ZZPost (w : World) (ao : Option Addr) (gh cap : Nat) (s' : St) (e : Ending) (w' : World) : Prop :=
  e = .returned (.tuple #[.slice ao s'.h.length cap, .int .i64 s'.g, .int .i64 s'.t, .bool s'.m]) ∧ RowAt w' ao gh s'.h ∧ One w w' ao gh

/-- The two boxes. -/
def boxed (w : World) (hv : Value) (g t : Int) (m : Option Nat) : World :=
  (w.alloc (.cells #[hv, .int .i64 g, .int .i64 t] 65)).alloc (.cells #[.map m] 69)

/-- Whatever 'pass' does to the object. -/
theorem zz_walk (ao : Option Addr) (n cap : Nat) (g t g' t' : Int) (m : Option Nat) (mv : Bool) (R : World → Prop) (w : World)
    (hp : Hid (Calls Try.prog 34 #[.pointer (some ⟨w.heap.size, 0, none⟩), .pointer (some ⟨w.heap.size + 1, 0, none⟩)] (boxed w (.slice ao n cap) g t m) fun e w' =>
      e = .returned (.bool mv) ∧ w'.cell? ⟨w.heap.size, 0, none⟩ = some (.slice ao n cap) ∧ w'.cell? ⟨w.heap.size, 1, none⟩ = some (.int .i64 g') ∧ w'.cell? ⟨w.heap.size, 2, none⟩ = some (.int .i64 t') ∧ R w')) :
    Calls Try.prog 29 #[.slice ao n cap, .int .i64 g, .int .i64 t, .map m] w fun e w' => e = .returned (.tuple #[.slice ao n cap, .int .i64 g', .int .i64 t', .bool mv]) ∧ ∃ w1 nq, R w1 ∧ w' = w1.drewN nq := by
  go_enter Try.func29, Try.ntmps29
  go_wp2_with fail
  refine Calls.mono hp.out ?_
  rintro e w1 ⟨rfl, k0, k1, k2, hR⟩
  have HR : Hid _ := hR
  clear hR hp
  go_wp2
  go_quiet (fail)
  go_wp2
  exact bodyPost_ret (v := .tuple #[.slice ao n cap, .int .i64 g', .int .i64 t', .bool mv]) (by simp [results, Try.results29, go_sem]) rfl ⟨rfl, w1, nq, HR.out, rfl⟩

theorem boxed_below (w : World) (hv : Value) (g t : Int) (m : Option Nat) : Below w.heap.size w (boxed w hv g t m) :=
  ((Below.refl _ _).alloc (Nat.le_refl _) _).alloc (by simp) _
theorem boxed_O (w : World) (hv : Value) (g t : Int) (m : Option Nat) (i : Nat) : (boxed w hv g t m).cell? ⟨w.heap.size, i, none⟩ = #[hv, .int .i64 g, .int .i64 t][i]? := by
  rw [boxed, World.cell?_alloc_past _ _ _ (by simp), World.cell?_alloc_at _ _ _ _ rfl]
theorem boxed_K (w : World) (hv : Value) (g t : Int) (m : Option Nat) : (boxed w hv g t m).cell? ⟨w.heap.size + 1, 0, none⟩ = some (.map m) := by
  rw [boxed, World.cell?_alloc_at _ _ _ _ (by simp)]
  rfl
theorem boxed_fO (w : World) (hv : Value) (g t : Int) (m : Option Nat) (i : Nat) : (boxed w hv g t m).frozen? ⟨w.heap.size, i, none⟩ = false := by
  rw [boxed, World.frozen?_alloc_past _ _ _ (by simp), World.frozen?_alloc_at _ _ _ _ rfl]

theorem RowAt.below {w w' : World} {ao : Option Addr} {gh : Nat} {h : List Int} (r : RowAt w ao gh h) (k : Below w.heap.size w w') : RowAt w' ao gh h := by
  rcases r with r | ⟨h0, h1, h2, h3⟩
  · exact .inl r
  · refine .inr ⟨h0, Nat.lt_of_lt_of_le h1 k.size, fun j hj => ?_, fun j => ?_⟩
    · rw [k.cell (p := ⟨gh, j, none⟩) h1]; exact h2 j hj
    · rw [k.frozen (p := ⟨gh, j, none⟩) h1]; exact h3 j

theorem One.of_below {w w' : World} (ao : Option Addr) (gh : Nat) (k : Below w.heap.size w w') : One w w' ao gh := ⟨k.os, k.tape, k.output, k.size, fun i hi _ => k.block i hi⟩

set_option maxHeartbeats 800000 in
theorem zz_any (ao : Option Addr) (gh cap : Nat) (s0 : St) (m : Option Nat) (A : Int → Option Addr) (L : Int → List Int) (C : Int → Nat) (hs : Int → Bool) (w : World)
    (hm0 : s0.m = false) (hr : RowAt w ao gh s0.h) (hl : LinksAt w m A L C hs) (hm : ao ≠ none → ∀ b, m = some b → b ≠ gh) (hA : ao ≠ none → ∀ x ad, A x = some ad → ad.block ≠ gh)
    (hlen : s0.h.length ≤ 65536) (hfit : Fits s0.h) (hdom : ∀ x, DomAt s0.h.length L x) :
    Calls Try.prog 29 #[.slice ao s0.h.length cap, .int .i64 s0.g, .int .i64 s0.t, .map m] w (ZZPost w ao gh cap (finalSt L s0)) := by
  have hbb := boxed_below w (.slice ao s0.h.length cap) s0.g s0.t m
  have hO := boxed_O w (.slice ao s0.h.length cap) s0.g s0.t m
  have same : ∀ mv, mv = s0.m → finalSt L s0 = s0 → (Hid (Calls Try.prog 34 #[.pointer (some ⟨w.heap.size, 0, none⟩), .pointer (some ⟨w.heap.size + 1, 0, none⟩)] (boxed w (.slice ao s0.h.length cap) s0.g s0.t m) fun e w' => e = .returned (.bool mv) ∧ boxed w (.slice ao s0.h.length cap) s0.g s0.t m = w')) →
      Calls Try.prog 29 #[.slice ao s0.h.length cap, .int .i64 s0.g, .int .i64 s0.t, .map m] w (ZZPost w ao gh cap (finalSt L s0)) := by
    intro mv hmv hfin hp
    refine (zz_walk ao s0.h.length cap s0.g s0.t s0.g s0.t m mv (fun w1 => w1 = boxed w (.slice ao s0.h.length cap) s0.g s0.t m) w (Calls.mono hp.out fun e w' ⟨h1, h2⟩ => ?_)).mono fun e w' ⟨h1, w1, nq, h2, h3⟩ => ?_
    · subst h2
      exact ⟨h1, hO 0, hO 1, hO 2, rfl⟩
    · subst h2
      subst h3
      rw [hfin]
      have hb : Below w.heap.size w ((boxed w (.slice ao s0.h.length cap) s0.g s0.t m).drewN nq) := below_drewN hbb nq
      exact ⟨by rw [h1, hmv], hr.below hb, One.of_below ao gh hb⟩
  by_cases hg : s0.g = 0
  · exact same false hm0.symm (by simp [finalSt, hg]) (pass_zero w.heap.size (w.heap.size + 1) s0.g hg _ (hO 1))
  · have hg' : (s0.g == 0) = false := by simpa using hg
    rcases hr with ⟨rfl, hh⟩ | ⟨rfl, hgh, hrow, hfr⟩
    · have h0 : s0.h.length = 0 := by rw [hh]; rfl
      refine same false hm0.symm (by simp [finalSt, hh, passP]) ?_
      have := pass_empty w.heap.size (w.heap.size + 1) none cap s0.g hg' (boxed w (.slice none s0.h.length cap) s0.g s0.t m) ((hO 0).trans (by rw [h0]; rfl)) (hO 1)
      exact this
    · have hne : w.heap.size ≠ gh := by omega
      have hS : SprayAt (boxed w (.slice (some ⟨gh, 0, none⟩) s0.h.length cap) s0.g s0.t m) w.heap.size gh cap s0.h s0.g s0.t :=
        ⟨hO 0, hO 1, hO 2, boxed_fO _ _ _ _ _ _, boxed_fO _ _ _ _ _ _, fun j hj => by rw [hbb.cell (p := ⟨gh, j, none⟩) hgh]; exact hrow j hj, fun j => by rw [hbb.frozen (p := ⟨gh, j, none⟩) hgh]; exact hfr j, hne⟩
      have hp := pass_any w.heap.size (w.heap.size + 1) gh cap s0 m A L C hs (boxed w (.slice (some ⟨gh, 0, none⟩) s0.h.length cap) s0.g s0.t m) hg' hm0 ⟨hS, Two.refl _ _ _, hfit⟩ (hl.below hbb) (boxed_K _ _ _ _ _) (by omega) (by omega)
        (fun b hb => ⟨fun e => by
          have := hl.map
          rw [hb] at this
          have := this.1
          omega, hm (by simp) b hb⟩)
        (fun x ad had hx => ⟨fun e => by
          rcases hl.ints x with h | ⟨b, off, h, hlt, _⟩
          · exact hx h
          · rw [had] at h
            simp only [Option.some.injEq] at h
            rw [h] at e
            simp at e
            omega, hA (by simp) x ad had⟩) hlen hdom
      have hfin : finalSt L s0 = passP L s0 s0.h.length := by simp [finalSt, hg]
      have hlf : (passP L s0 s0.h.length).h.length = s0.h.length := passP_length _ _ _
      rw [hfin]
      generalize passP L s0 s0.h.length = s' at *
      refine (zz_walk _ s0.h.length cap s0.g s0.t s'.g s'.t m s'.m (fun w1 => PassAt (boxed w (.slice (some ⟨gh, 0, none⟩) s0.h.length cap) s0.g s0.t m) w1 w.heap.size gh cap s') w (Calls.mono hp fun e w' ⟨h1, h2⟩ => ?_)).mono fun e w' ⟨h1, w1, nq, h2, h3⟩ => ?_
      · exact ⟨h1, by rw [← hlf]; exact h2.spray.c0, h2.spray.c1, h2.spray.c2, h2⟩
      · subst h3
        have hsz : w.heap.size ≤ w1.heap.size := by rw [h2.two.size]; exact hbb.size
        refine ⟨by rw [hlf]; exact h1, .inr ⟨rfl, Nat.lt_of_lt_of_le hgh hsz, fun j hj => h2.spray.row j hj, fun j => h2.spray.frow j⟩, h2.two.os.trans hbb.os, h2.two.tape.trans hbb.tape, h2.two.output.trans hbb.output, hsz, fun i hi hne' => (h2.two.block i (by omega) (by simpa using hne')).trans (hbb.block i hi)⟩

/-- What 'passClone' leaves, nil or not. -/
def ClonePost (w : World) (xs : List Int) (e : Ending) (w' : World) : Prop :=
  ∃ ao cap, e = .returned (.slice ao xs.length cap) ∧ RowAt w' ao w.heap.size xs ∧ Below w.heap.size w w'

theorem clone_any (a : Option Addr) (xs : List Int) (cap : Nat) (w : World) (hx : IntsAt w a xs) (hlen : xs.length * 8 ≤ 140737488351232) :
    Calls Try.prog 27 #[.slice a xs.length cap] w (ClonePost w xs) := by
  cases a with
  | none =>
    have h0 : xs = [] := by
      rcases hx with h | ⟨_, _, h, _⟩
      · exact h
      · simp at h
    subst h0
    exact (clone_nil cap w).mono fun e w' ⟨h1, h2⟩ => ⟨none, 0, h1, .inl ⟨rfl, rfl⟩, h2 ▸ Below.refl _ _⟩
  | some ad =>
    refine (clone_some ad xs cap w hx hlen).mono fun e w' ⟨h1, h2⟩ => ?_
    subst h2
    refine ⟨_, _, h1, .inr ⟨rfl, by simp, fun j hj => ?_, fun j => World.frozen?_alloc_at _ _ _ _ rfl⟩, (Below.refl _ _).alloc (Nat.le_refl _) _⟩
    rw [World.cell?_alloc_at _ _ _ _ rfl, rowOf_at]
    simp [hj]
end Go.Proofs.Qxb6603019a
