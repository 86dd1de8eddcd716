/-
  THE WALK of 'FnRingNeighbourIsSimpleAndSymmetric' (function 4): it returns true.
-/
import Derived.Test.Qxb6602687aRing
import Derived.OpenShut
namespace Go.Proofs.Qxb6602687a.walkB
open Go.RowKit

theorem ret_true {b : Bool} (h : b = true) : Ending.returned (.bool b) = .returned (.bool true) := by rw [h]

/-- What the law asks of the neighbours, as plain facts. -/
theorem facts0 (n v : Int) (h3 : 3 ≤ n) (hv0 : 0 ≤ v) (hv1 : v < n) :
    0 ≤ ring.nb0 n v ∧ ring.nb0 n v < n ∧ ring.nb0 n v ≠ v ∧ ring.nb0 n v < ring.nb1 n v ∧ (ring.nb0 n (ring.nb0 n v) = v ∨ ring.nb1 n (ring.nb0 n v) = v) := by
  unfold ring.nb0 ring.nb1
  split <;> split <;> omega
theorem facts1 (n v : Int) (h3 : 3 ≤ n) (hv0 : 0 ≤ v) (hv1 : v < n) :
    0 ≤ ring.nb1 n v ∧ ring.nb1 n v < n ∧ ring.nb1 n v ≠ v ∧ ring.nb0 n v < ring.nb1 n v ∧ (ring.nb0 n (ring.nb1 n v) = v ∨ ring.nb1 n (ring.nb1 n v) = v) := by
  unfold ring.nb0 ring.nb1
  split <;> split <;> omega

/-- From the guards on: the three neighbours u (of v), p, q (of u) under names of their own; the callee's contracts are hidden from the walk. -/
theorem core (a0 a1 a2 u s t p q : Int) (w : World) (c1 : 3 ≤ a0) (c2 : 0 ≤ a1) (c3 : a1 < a0) (c4 : 0 ≤ a2) (c5 : a2 ≤ 1)
    (e1 : 0 ≤ u) (e2 : u < a0) (e3 : u ≠ a1) (e4 : s < t) (e5 : p = a1 ∨ q = a1)
    (K : Hid (Calls Try.prog 10 #[.int .i64 a0, .int .i64 a1, .int .i64 a2] w fun e w' => e = .returned (.int .i64 u) ∧ w' = w))
    (K0 : Hid (Calls Try.prog 10 #[.int .i64 a0, .int .i64 a1, .int .i64 0] w fun e w' => e = .returned (.int .i64 s) ∧ w' = w))
    (K1 : Hid (Calls Try.prog 10 #[.int .i64 a0, .int .i64 a1, .int .i64 1] w fun e w' => e = .returned (.int .i64 t) ∧ w' = w))
    (K2 : Hid (Calls Try.prog 10 #[.int .i64 a0, .int .i64 u, .int .i64 0] w fun e w' => e = .returned (.int .i64 p) ∧ w' = w))
    (K3 : Hid (Calls Try.prog 10 #[.int .i64 a0, .int .i64 u, .int .i64 1] w fun e w' => e = .returned (.int .i64 q) ∧ w' = w)) :
    Calls Try.prog 4 #[.int .i64 a0, .int .i64 a1, .int .i64 a2] w fun e w' => e = .returned (.bool true) ∧ Grown w w' := by
  have d1 : decide (u < 0) = false := decide_eq_false (by omega)
  have d2 : decide (a0 ≤ u) = false := decide_eq_false (by omega)
  have d3 : (u == a1) = false := by simpa using e3
  have d4 : ¬ t ≤ s := by omega
  by_cases hp : p = a1
  · have hp' : (p == a1) = true := by simpa using hp
    clear hp e5 e3
    go_enter Try.func4, Try.ntmps4
    go_wp2_with fail
    refine Calls.mono K.out ?_
    rintro e w' ⟨rfl, rfl⟩
    go_wp2_with fail
    refine Calls.mono K0.out ?_
    rintro e w' ⟨rfl, rfl⟩
    go_wp2_with fail
    refine Calls.mono K1.out ?_
    rintro e w' ⟨rfl, rfl⟩
    go_wp2_with fail
    refine Calls.mono K2.out ?_
    rintro e w' ⟨rfl, rfl⟩
    go_wp2_with fail
    go_ret
    exact ⟨rfl, Grown.refl _⟩
  · have hp' : (p == a1) = false := by simpa using hp
    have hq' : (q == a1) = true := by simpa [hp] using e5
    clear hp e5 e3
    go_enter Try.func4, Try.ntmps4
    go_wp2_with fail
    refine Calls.mono K.out ?_
    rintro e w' ⟨rfl, rfl⟩
    go_wp2_with fail
    refine Calls.mono K0.out ?_
    rintro e w' ⟨rfl, rfl⟩
    go_wp2_with fail
    refine Calls.mono K1.out ?_
    rintro e w' ⟨rfl, rfl⟩
    go_wp2_with fail
    refine Calls.mono K2.out ?_
    rintro e w' ⟨rfl, rfl⟩
    go_wp2_with fail
    refine Calls.mono K3.out ?_
    rintro e w' ⟨rfl, rfl⟩
    go_wp2_with fail
    go_ret
    exact ⟨rfl, Grown.refl _⟩

theorem walk (a0 : Int) (a1 : Int) (a2 : Int) (w0 : (Lit.int .i64 a0).wf = true) (w1 : (Lit.int .i64 a1).wf = true) (w2 : (Lit.int .i64 a2).wf = true) (w : World) :
    Calls Try.prog 4 #[.int .i64 a0, .int .i64 a1, .int .i64 a2] w fun e w' => e = .returned (.bool true) ∧ Grown w w' := by
  have b0 := bounds_i64 w0
  have b1 := bounds_i64 w1
  have b2 := bounds_i64 w2
  clear w0 w1 w2
  by_cases c1 : a0 < 3
  · go_enter Try.func4, Try.ntmps4
    go_wp2
    go_ret
    exact ⟨rfl, Grown.refl _⟩
  by_cases c2 : a1 < 0
  · go_enter Try.func4, Try.ntmps4
    go_wp2
    go_ret
    exact ⟨rfl, Grown.refl _⟩
  by_cases c3 : a0 ≤ a1
  · go_enter Try.func4, Try.ntmps4
    go_wp2
    go_ret
    exact ⟨rfl, Grown.refl _⟩
  by_cases c4 : a2 < 0
  · go_enter Try.func4, Try.ntmps4
    go_wp2
    go_ret
    exact ⟨rfl, Grown.refl _⟩
  by_cases c5 : 1 < a2
  · go_enter Try.func4, Try.ntmps4
    go_wp2
    go_ret
    exact ⟨rfl, Grown.refl _⟩
  have c6 : a2 = 0 ∨ a2 = 1 := by omega
  have k0 := ring.zz0 a0 a1 w (by omega) (by omega) (by omega) (by omega)
  have k1 := ring.zz1 a0 a1 w (by omega) (by omega) (by omega) (by omega)
  obtain ⟨e1, e2, e3, e4, e5⟩ := facts0 a0 a1 (by omega) (by omega) (by omega)
  obtain ⟨f1, f2, f3, f4, f5⟩ := facts1 a0 a1 (by omega) (by omega) (by omega)
  rcases c6 with rfl | rfl
  · exact core a0 a1 0 _ _ _ _ _ w (by omega) (by omega) (by omega) (by omega) (by omega) e1 e2 e3 e4 e5 k0 k0 k1
      (ring.zz0 a0 (ring.nb0 a0 a1) w (by omega) (by omega) e1 e2) (ring.zz1 a0 (ring.nb0 a0 a1) w (by omega) (by omega) e1 e2)
  · exact core a0 a1 1 _ _ _ _ _ w (by omega) (by omega) (by omega) (by omega) (by omega) f1 f2 f3 f4 f5 k1 k0 k1
      (ring.zz0 a0 (ring.nb1 a0 a1) w (by omega) (by omega) f1 f2) (ring.zz1 a0 (ring.nb1 a0 a1) w (by omega) (by omega) f1 f2)
end Go.Proofs.Qxb6602687a.walkB
