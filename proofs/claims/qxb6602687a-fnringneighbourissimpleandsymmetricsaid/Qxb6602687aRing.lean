/-
  THE RING's CALLEES: 'ZZRingNeighbour' (function 10) at i = 0 and at i = 1, by plain functions.
-/
import Derived.Test.Qxb6602687aRows
import Derived.WalkKit
import Derived.ProofKit
namespace Go.Proofs.Qxb6602687a.ring
open Go.RowKit

/-- The smaller neighbour of v on the ring of n nodes. -/
def nb0 (n v : Int) : Int := if v = 0 then 1 else if v = n - 1 then 0 else v - 1
/-- The larger one. -/
def nb1 (n v : Int) : Int := if v = 0 then n - 1 else if v = n - 1 then n - 2 else v + 1

theorem ret_int {k : IntKind} {a b : Int} (h : a = b) : Ending.returned (.int k a) = .returned (.int k b) := by rw [h]

theorem zz0 (n v : Int) (w : World) (h3 : 3 ≤ n) (hn : n ≤ 9223372036854775807) (hv0 : 0 ≤ v) (hv1 : v < n) :
    Calls Try.prog 10 #[.int .i64 n, .int .i64 v, .int .i64 0] w fun e w' => e = .returned (.int .i64 (nb0 n v)) ∧ w' = w := by
  by_cases c0 : v = 0
  · subst c0
    go_enter Try.func10, Try.ntmps10
    go_wp2
    go_ret
    exact ⟨ret_int (by simp [nb0]), rfl⟩
  · by_cases c1 : v = n - 1
    · subst c1
      go_enter Try.func10, Try.ntmps10
      go_wp2
      go_ret
      exact ⟨ret_int (by simp [nb0]; omega), rfl⟩
    · go_enter Try.func10, Try.ntmps10
      go_wp2
      go_ret
      exact ⟨ret_int (by simp [nb0, c0, c1]), rfl⟩

theorem zz1 (n v : Int) (w : World) (h3 : 3 ≤ n) (hn : n ≤ 9223372036854775807) (hv0 : 0 ≤ v) (hv1 : v < n) :
    Calls Try.prog 10 #[.int .i64 n, .int .i64 v, .int .i64 1] w fun e w' => e = .returned (.int .i64 (nb1 n v)) ∧ w' = w := by
  by_cases c0 : v = 0
  · subst c0
    go_enter Try.func10, Try.ntmps10
    go_wp2
    go_ret
    exact ⟨ret_int (by simp [nb1]; omega), rfl⟩
  · by_cases c1 : v = n - 1
    · subst c1
      go_enter Try.func10, Try.ntmps10
      go_wp2
      go_ret
      exact ⟨ret_int (by simp [nb1]; omega), rfl⟩
    · go_enter Try.func10, Try.ntmps10
      go_wp2
      go_ret
      exact ⟨ret_int (by simp [nb1, c0, c1]; omega), rfl⟩
end Go.Proofs.Qxb6602687a.ring
