/-
  THE WALK of 'FnRingWalkIsOneCycleThroughAllNodes' (function 5): it returns true.
-/
import Derived.Test.Qxb6602687aRing
import Derived.OpenShut
import Derived.Deep.OwnRows
namespace Go.Proofs.Qxb6602687a.walkC
open Go.RowKit

theorem info4 : (Try.prog.info? 4).map (fun i => (i.zero, i.size, i.bytes)) = some (some (.bool false), 1, 1) := by kernel_rfl

theorem ret_true {b : Bool} (h : b = true) : Ending.returned (.bool b) = .returned (.bool true) := by rw [h]

/-- The first k of the N marks stand, the others do not; nothing that was there before the call has turned. -/
structure Seen (w wr : World) (N k : Nat) : Prop where
  cell : ∀ j, j < N → wr.cell? ⟨w.heap.size, j, none⟩ = some (.bool (decide (j < k)))
  frozen : ∀ j, wr.frozen? ⟨w.heap.size, j, none⟩ = false
  grown : Grown w wr

theorem Seen.start (w : World) (N : Nat) (h : 0 < N) : Seen w (w.alloc (.cells ((madeCells #[.bool false] N).setIfInBounds 0 (.bool true)) 4)) N 1 := by
  refine ⟨fun j hj => ?_, fun j => World.frozen?_alloc_at _ _ _ _ rfl, (Grown.refl w).alloc _ _⟩
  rw [World.cell?_alloc_at _ _ _ _ rfl, Array.getElem?_setIfInBounds]
  by_cases h0 : 0 = j
  · subst h0
    simp [madeCells, h]
  · simp [madeCells, h0, hj, Nat.mod_one]
    omega

theorem Seen.step {w wr : World} {N k : Nat} (h : Seen w wr N k) (hk : k < N) : Seen w (wr.setCell ⟨w.heap.size, k, none⟩ (.bool true)) N (k + 1) := by
  refine ⟨fun j hj => ?_, fun j => by rw [World.frozen?_setCell]; exact h.frozen j, h.grown.setCell (Nat.le_refl _) _⟩
  by_cases e : k = j
  · subst e
    rw [World.cell?_setCell_same _ _ _ (h.cell _ hk)]
    simp
  · rw [World.cell?_setCell_other _ _ _ _ (fun c => e (by injection c)), h.cell j hj]
    congr 2
    simp
    omega

/-- Where the walk stands ahead of step k. -/
def curAt (N k : Nat) : Int := if k < N then k else 0
theorem curAt_lt {N k : Nat} (h : k < N) : curAt N k = k := by simp [curAt, h]
theorem curAt_end (N : Nat) : curAt N N = 0 := by simp [curAt]
theorem nb0_start (N : Nat) (h : 3 ≤ N) : ring.nb0 N 0 = curAt N 1 := by
  unfold ring.nb0 curAt
  simp; omega
theorem nb0_mid (N k : Nat) (h1 : 1 ≤ k) (h : k + 1 < N) : ring.nb0 N k = (k : Int) - 1 := by
  unfold ring.nb0
  rw [if_neg (by omega), if_neg (by omega)]
theorem nb1_mid (N k : Nat) (h1 : 1 ≤ k) (h : k + 1 < N) : ring.nb1 N k = (k : Int) + 1 := by
  unfold ring.nb1
  rw [if_neg (by omega), if_neg (by omega)]
theorem nb0_last (N k : Nat) (h1 : 1 ≤ k) (h : N = k + 1) : ring.nb0 N k = 0 := by
  unfold ring.nb0
  rw [if_neg (by omega), if_pos (by omega)]
theorem nb1_last (N k : Nat) (h1 : 1 ≤ k) (h : N = k + 1) : ring.nb1 N k = (k : Int) - 1 := by
  unfold ring.nb1
  rw [if_neg (by omega), if_pos (by omega)]
  omega
theorem nb1_start (N : Nat) : ring.nb1 N 0 = (N : Int) - 1 := by
  simp [ring.nb1]

set_option maxHeartbeats 400000 in
theorem core (N : Nat) (w : World) (h3 : 3 ≤ N) (hN : N ≤ 65536) :
    Calls Try.prog 5 #[.int .i64 (N : Int)] w fun e w' => e = .returned (.bool true) ∧ Grown w w' := by
  have hmk := fun w => run_make_row' (P := Try.prog) 24 4 (.bool false) 1 Try.underlying24 info4 rfl .i64 .i64 N (by omega) (by omega) w
  have n0 : ¬ ((N : Int) < 3) := by omega
  have n1 : ¬ (65536 < (N : Int)) := by omega
  have hm0 : (madeCells #[.bool false] N)[0]? = some (.bool false) := by
    have : 0 < N := by omega
    simp [madeCells, this]
  have S0 := Seen.start w N (by omega)
  have k0 : Hid _ := ring.zz0 N 0 (w.alloc (.cells ((madeCells #[.bool false] N).setIfInBounds 0 (.bool true)) 4)) (by omega) (by omega) (by omega) (by omega)
  go_enter Try.func5, Try.ntmps5
  go_wp2_with fail
  refine Calls.mono k0.out ?_
  rintro e w' ⟨rfl, rfl⟩
  go_wp2_with fail
  clear hm0 hmk k0
  go_loopw [4, 5, 6] (fun p c s wr => ∃ k : Nat, 1 ≤ k ∧ k ≤ N ∧ s = .int .i64 (k : Int) ∧ c = .int .i64 (curAt N k) ∧ p = .int .i64 ((k : Int) - 1) ∧ Seen w wr N k) (fun _ _ s _ => N - (intOf s).toNat)
  case atStart => exact ⟨1, by omega, by omega, rfl, by rw [nb0_start N h3], rfl, S0⟩
  case round =>
    clear S0
    obtain ⟨k, hk1, hkN, rfl, rfl, rfl, hS⟩ := hrel
    by_cases hlt : k < N
    · rw [curAt_lt hlt]
      have hc : wr.cell? ⟨w.heap.size, k, none⟩ = some (.bool false) := by rw [hS.cell k hlt]; simp
      have hf := hS.frozen k
      have hS1 : Hid _ := hS.step hlt
      by_cases hmid : k + 1 < N
      · have z0 := fun W => ring.zz0 N k W (by omega) (by omega) (by omega) (by omega)
        have z1 := fun W => ring.zz1 N k W (by omega) (by omega) (by omega) (by omega)
        rw [nb0_mid N k hk1 hmid] at z0
        rw [nb1_mid N k hk1 hmid] at z1
        have Z0 : Hid _ := z0
        have Z1 : Hid _ := z1
        clear z0 z1
        go_wp2_with fail
        refine Calls.mono (Z0.out _) ?_
        rintro e w' ⟨rfl, rfl⟩
        go_wp2_with fail
        refine Calls.mono (Z1.out _) ?_
        rintro e w' ⟨rfl, rfl⟩
        go_wp2_with fail
        go_roundw
        case rel => exact ⟨k + 1, by omega, by omega, by go_num, by rw [curAt_lt hmid]; go_num, by go_num, hS1.out⟩
        case measure => simp [intOf]; omega
      · have HE : Hid (N = k + 1) := by unfold Hid; omega
        have z0 := fun W => ring.zz0 N k W (by omega) (by omega) (by omega) (by omega)
        have z1 := fun W => ring.zz1 N k W (by omega) (by omega) (by omega) (by omega)
        rw [nb0_last N k hk1 HE.out] at z0
        rw [nb1_last N k hk1 HE.out] at z1
        have Z0 : Hid _ := z0
        have Z1 : Hid _ := z1
        clear z0 z1
        have ne : ((0 : Int) == (k : Int) - 1) = false := by simp; omega
        go_wp2_with fail
        refine Calls.mono (Z0.out _) ?_
        rintro e w' ⟨rfl, rfl⟩
        go_wp2_with fail
        refine Calls.mono (Z1.out _) ?_
        rintro e w' ⟨rfl, rfl⟩
        go_wp2_with fail
        go_roundw
        case rel => exact ⟨k + 1, by omega, by omega, by go_num, by rw [HE.out, curAt_end], by go_num, hS1.out⟩
        case measure => simp [intOf]; omega
    · obtain rfl : N = k := by omega
      rw [curAt_end]
      have z1 := fun W => ring.zz1 (N : Nat) 0 W (by omega) (by omega) (by omega) (by omega)
      rw [nb1_start] at z1
      have Z1 : Hid _ := z1
      clear z1
      go_wp2_with fail
      refine Calls.mono (Z1.out _) ?_
      rintro e w' ⟨rfl, rfl⟩
      go_wp2_with fail
      go_ret
      exact ⟨ret_true (by simp), hS.grown⟩

theorem walk (a0 : Int) (w0 : (Lit.int .i64 a0).wf = true) (w : World) :
    Calls Try.prog 5 #[.int .i64 a0] w fun e w' => e = .returned (.bool true) ∧ Grown w w' := by
  have b0 := bounds_i64 w0
  clear w0
  by_cases c1 : a0 < 3
  · go_enter Try.func5, Try.ntmps5
    go_wp2
    go_ret
    exact ⟨rfl, Grown.refl _⟩
  by_cases c2 : 65536 < a0
  · go_enter Try.func5, Try.ntmps5
    go_wp2
    go_ret
    exact ⟨rfl, Grown.refl _⟩
  obtain ⟨N, rfl⟩ := Int.eq_ofNat_of_zero_le (show 0 ≤ a0 by omega)
  exact core N w (by omega) (by omega)
end Go.Proofs.Qxb6602687a.walkC
