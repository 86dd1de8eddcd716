/-
  THE WALK of 'FnRingNeighbourIsAscendingCycleNeighbour' (function 3): it returns true.
-/
import Derived.Test.Qxb6602687aRing
import Derived.OpenShut
namespace Go.Proofs.Qxb6602687a.walkA
open Go.RowKit

theorem ret_true {b : Bool} (h : b = true) : Ending.returned (.bool b) = .returned (.bool true) := by rw [h]

theorem walk (a0 : Int) (a1 : Int) (a2 : Int) (w0 : (Lit.int .i64 a0).wf = true) (w1 : (Lit.int .i64 a1).wf = true) (w2 : (Lit.int .i64 a2).wf = true) (w : World) :
    Calls Try.prog 3 #[.int .i64 a0, .int .i64 a1, .int .i64 a2] w fun e w' => e = .returned (.bool true) ∧ Grown w w' := by
  have b0 := bounds_i64 w0
  have b1 := bounds_i64 w1
  have b2 := bounds_i64 w2
  clear w0 w1 w2
  by_cases c1 : a0 < 3
  · go_enter Try.func3, Try.ntmps3
    go_wp2
    go_ret
    exact ⟨rfl, Grown.refl _⟩
  by_cases c2 : a1 < 0
  · go_enter Try.func3, Try.ntmps3
    go_wp2
    go_ret
    exact ⟨rfl, Grown.refl _⟩
  by_cases c3 : a0 ≤ a1
  · go_enter Try.func3, Try.ntmps3
    go_wp2
    go_ret
    exact ⟨rfl, Grown.refl _⟩
  by_cases c4 : a2 < 0
  · go_enter Try.func3, Try.ntmps3
    go_wp2
    go_ret
    exact ⟨rfl, Grown.refl _⟩
  by_cases c5 : 1 < a2
  · go_enter Try.func3, Try.ntmps3
    go_wp2
    go_ret
    exact ⟨rfl, Grown.refl _⟩
  have c6 : a2 = 0 ∨ a2 = 1 := by omega
  have c7 : a1 = 0 ∨ a1 = a0 - 1 ∨ (0 < a1 ∧ a1 < a0 - 1) := by omega
  clear c4 c5 b2
  rcases c6 with rfl | rfl
  · rcases c7 with c | c | c
    · subst c
      go_enter Try.func3, Try.ntmps3
      go_wp2_with (go_at_call 10; refine (ring.zz0 _ _ _ (by omega) (by omega) (by omega) (by omega)).mono ?_; rintro e w' ⟨rfl, rfl⟩)
      go_ret
      exact ⟨ret_true (by simp [ring.nb0]), Grown.refl _⟩
    · subst c
      go_enter Try.func3, Try.ntmps3
      go_wp2_with (go_at_call 10; refine (ring.zz0 _ _ _ (by omega) (by omega) (by omega) (by omega)).mono ?_; rintro e w' ⟨rfl, rfl⟩)
      go_ret
      exact ⟨ret_true (by simp [ring.nb0]; omega), Grown.refl _⟩
    · go_enter Try.func3, Try.ntmps3
      go_wp2_with (go_at_call 10; refine (ring.zz0 _ _ _ (by omega) (by omega) (by omega) (by omega)).mono ?_; rintro e w' ⟨rfl, rfl⟩)
      go_ret
      exact ⟨ret_true (by simp [ring.nb0]; omega), Grown.refl _⟩
  · rcases c7 with c | c | c
    · subst c
      go_enter Try.func3, Try.ntmps3
      go_wp2_with (go_at_call 10; refine (ring.zz1 _ _ _ (by omega) (by omega) (by omega) (by omega)).mono ?_; rintro e w' ⟨rfl, rfl⟩)
      go_ret
      exact ⟨ret_true (by simp [ring.nb1]), Grown.refl _⟩
    · subst c
      go_enter Try.func3, Try.ntmps3
      go_wp2_with (go_at_call 10; refine (ring.zz1 _ _ _ (by omega) (by omega) (by omega) (by omega)).mono ?_; rintro e w' ⟨rfl, rfl⟩)
      go_ret
      exact ⟨ret_true (by simp [ring.nb1]; omega), Grown.refl _⟩
    · go_enter Try.func3, Try.ntmps3
      go_wp2_with (go_at_call 10; refine (ring.zz1 _ _ _ (by omega) (by omega) (by omega) (by omega)).mono ?_; rintro e w' ⟨rfl, rfl⟩)
      go_ret
      exact ⟨ret_true (by simp [ring.nb1]; omega), Grown.refl _⟩
end Go.Proofs.Qxb6602687a.walkA
