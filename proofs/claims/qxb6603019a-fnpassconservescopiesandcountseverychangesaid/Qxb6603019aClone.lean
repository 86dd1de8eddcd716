/-
  'passClone' (function 27): a new row with the same numbers; nil stays nil.
-/
import Derived.Test.Qxb6603019aBase
namespace Go.Proofs.Qxb6603019a
open Go.RowKit

/-- The new row's cells behind k rounds. -/
def arrAt (xs : List Int) (k : Nat) : Array Value := ((List.range xs.length).map fun j => Value.int .i64 (if j < k then xs.getD j 0 else 0)).toArray

/-- A row of numbers. -/
def rowOf (xs : List Int) : Array Value := (xs.map (Value.int .i64)).toArray

theorem arrAt_at (xs : List Int) (k j : Nat) : (arrAt xs k)[j]? = if j < xs.length then some (.int .i64 (if j < k then xs.getD j 0 else 0)) else none := by
  simp only [arrAt, List.getElem?_toArray, List.getElem?_map]
  by_cases h : j < xs.length
  · rw [List.getElem?_range h]; simp [h]
  · rw [List.getElem?_eq_none (by simpa using h)]; simp [h]
theorem arrAt_size (xs : List Int) (k : Nat) : (arrAt xs k).size = xs.length := by
  simp [arrAt]
theorem rowOf_at (xs : List Int) (j : Nat) : (rowOf xs)[j]? = if j < xs.length then some (.int .i64 (xs.getD j 0)) else none := by
  by_cases h : j < xs.length
  · simp [rowOf, h]
  · simp [rowOf, h]
theorem arrAt_zero (xs : List Int) : madeCells #[.int .i64 0] xs.length = arrAt xs 0 := by
  apply Array.ext_getElem?
  intro j
  rw [arrAt_at, ← Array.getElem?_toList, toList_madeCells_one, List.getElem?_replicate]
  simp
theorem arrAt_end (xs : List Int) : arrAt xs xs.length = rowOf xs := by
  apply Array.ext_getElem?
  intro j
  rw [arrAt_at, rowOf_at]
  by_cases h : j < xs.length
  · simp [h]
  · simp [h]
theorem arrAt_step (xs : List Int) (k : Nat) (h : k < xs.length) : (arrAt xs k).setIfInBounds k (.int .i64 (xs.getD k 0)) = arrAt xs (k + 1) := by
  apply Array.ext_getElem?
  intro j
  rw [Array.getElem?_setIfInBounds, arrAt_at, arrAt_at, arrAt_size]
  by_cases e : k = j
  · subst e
    simp [h]
  · by_cases l : j < k
    · rw [if_neg e, if_pos l, if_pos (show j < k + 1 by omega)]
    · rw [if_neg e, if_neg l, if_neg (show ¬ j < k + 1 by omega)]
theorem arrAt_get (xs : List Int) (k : Nat) (h : k < xs.length) : (arrAt xs k)[k]? = some (.int .i64 0) := by
  rw [arrAt_at]
  simp [h]

theorem clone_nil (cap : Nat) (w : World) : Calls Try.prog 27 #[.slice none 0 cap] w fun e w' => e = .returned (.slice none 0 0) ∧ w = w' := by
  have he := fun w => Lib.run_eql_slice_nil (P := Try.prog) w 33 3 none 0 cap 0 0 Try.underlying33
  go_enter Try.func27, Try.ntmps27
  go_wp2
  go_ret
  exact ⟨rfl, rfl⟩

set_option maxHeartbeats 400000 in
theorem clone_some (ad : Addr) (xs : List Int) (cap : Nat) (w : World) (hx : IntsAt w (some ad) xs) (hlen : xs.length * 8 ≤ 140737488351232) :
    Calls Try.prog 27 #[.slice (some ad) xs.length cap] w fun e w' => e = .returned (.slice (some ⟨w.heap.size, 0, none⟩) xs.length xs.length) ∧ w.alloc (.cells (rowOf xs) 3) = w' := by
  have he := fun w => Lib.run_eql_slice_nil (P := Try.prog) w 33 3 (some ad) xs.length cap 0 0 Try.underlying33
  have hmk := fun w => run_make_row' (P := Try.prog) 33 3 (.int .i64 0) 8 Try.underlying33 info3 rfl .i64 .i64 xs.length (by omega) (by omega) w
  rw [arrAt_zero] at hmk
  go_enter Try.func27, Try.ntmps27
  go_wp2
  clear he hmk
  go_loopw [4] (fun i wr => ∃ k : Nat, k ≤ xs.length ∧ i = .int .i64 (k : Int) ∧ wr = w.alloc (.cells (arrAt xs k) 3)) (fun i _ => xs.length - (intOf i).toNat)
  case atStart => exact ⟨0, Nat.zero_le _, rfl, rfl⟩
  case round =>
    obtain ⟨k, hk, rfl, rfl⟩ := hrel
    by_cases hlt : k < xs.length
    · rcases hx with hx | ⟨b, off, hab, hb, hc⟩
      · subst hx; simp at hlt
      · obtain rfl : ad = ⟨b, off, none⟩ := by simpa using hab
        have h1 : w.cell? ⟨b, off + k, none⟩ = some (.int .i64 (xs.getD k 0)) := hc k hlt
        have h2 := arrAt_get xs k hlt
        have H3 : Hid _ := arrAt_step xs k hlt
        clear hc
        go_wp2
        go_roundw
        case rel => exact ⟨k + 1, by omega, by go_num, by rw [← H3.out]; simp [hlt]⟩
        case measure => simp [intOf]; omega
    · obtain rfl : k = xs.length := by omega
      go_wp2
      go_ret
      exact ⟨rfl, by rw [arrAt_end]⟩
end Go.Proofs.Qxb6603019a
