/-
  'addRange' (function 17): each word from lo/64 to hi/64 is or-ed with a mask; what the masks are the law does not ask.
-/
import Derived.Test.Qxb6603436aRows
import Derived.WalkKit
import Derived.ProofKit
import Derived.OpenShut
import Derived.RegionTactic
import Derived.Deep.QuietTactic
import Derived.BigQuiet
import Derived.WalkSmall
namespace Go.Proofs.Qxb6603436a
open Go.RowKit

/-- The mask of word j. -/
def maskAt (lo hi : Nat) (j : Nat) : Int :=
  if j = lo / 64 then
    (if j = hi / 64 then bits .and .u64 (bits .and .u64 18446744073709551615 (IntKind.u64.wrap (18446744073709551615 * 2 ^ (lo % 64)))) (18446744073709551615 / 2 ^ (63 - hi % 64))
     else bits .and .u64 18446744073709551615 (IntKind.u64.wrap (18446744073709551615 * 2 ^ (lo % 64))))
  else (if j = hi / 64 then bits .and .u64 18446744073709551615 (18446744073709551615 / 2 ^ (63 - hi % 64)) else 18446744073709551615)
def orW (a b : Int) : Int := bits .or .u64 a b
/-- The words behind the rounds up to k. -/
def wordAt (lo hi : Nat) (s : Nat → Int) (k j : Nat) : Int := if lo / 64 ≤ j ∧ j < k then orW (s j) (maskAt lo hi j) else s j

structure SetAt (w wr : World) (B : Nat) (f : Nat → Int) : Prop where
  cell : ∀ j, j < 4 → wr.cell? ⟨B, j, none⟩ = some (.int .u64 (f j))
  frozen : ∀ j, wr.frozen? ⟨B, j, none⟩ = false
  os : wr.os = w.os
  tape : wr.tape = w.tape
  output : wr.output = w.output
  size : wr.heap.size = w.heap.size
  block : ∀ k, k ≠ B → wr.heap[k]? = w.heap[k]?

theorem SetAt.start {w : World} {B : Nat} {s : Nat → Int} (h : SetAt w w B s) (lo hi : Nat) : SetAt w w B (wordAt lo hi s (lo / 64)) := by
  refine ⟨fun j hj => ?_, h.frozen, rfl, rfl, rfl, rfl, fun _ _ => rfl⟩
  rw [h.cell j hj, wordAt, if_neg (by omega)]

theorem SetAt.step {w wr : World} {B : Nat} {s : Nat → Int} {lo hi k : Nat} (h : SetAt w wr B (wordAt lo hi s k)) (h1 : lo / 64 ≤ k) :
    SetAt w (wr.setCell ⟨B, k, none⟩ (.int .u64 (bits .or .u64 (s k) (maskAt lo hi k)))).drew B (wordAt lo hi s (k + 1)) := by
  refine ⟨fun j hj => ?_, fun j => ?_, h.os, h.tape, h.output, by simpa using h.size, fun i hi' => ?_⟩
  · show (wr.setCell ⟨B, k, none⟩ _).cell? _ = _
    by_cases e : k = j
    · subst e
      rw [World.cell?_setCell_same _ _ _ (h.cell k hj), wordAt, if_pos ⟨h1, by omega⟩]
      rfl
    · rw [World.cell?_setCell_other _ _ _ _ (fun c => e (by injection c)), h.cell j hj, wordAt, wordAt]
      by_cases c : lo / 64 ≤ j ∧ j < k
      · rw [if_pos c, if_pos (by omega)]
      · rw [if_neg c, if_neg (by omega)]
  · show (wr.setCell ⟨B, k, none⟩ _).frozen? _ = _
    rw [World.frozen?_setCell]; exact h.frozen j
  · show (wr.setCell ⟨B, k, none⟩ _).heap[i]? = _
    rw [Below.heap_setCell wr _ _ i hi']; exact h.block i hi'

theorem SetAt.congr {w wr : World} {B : Nat} {f g : Nat → Int} (h : SetAt w wr B f) (e : ∀ j, f j = g j) : SetAt w wr B g :=
  ⟨fun j hj => by rw [← e j]; exact h.cell j hj, h.frozen, h.os, h.tape, h.output, h.size, h.block⟩

set_option maxRecDepth 100000 in
set_option maxHeartbeats 1600000 in
theorem range_any (B : Nat) (s : Nat → Int) (lo hi : Nat) (w : World) (h : SetAt w w B s) (hlo : lo ≤ 255) (hhi : hi ≤ 255) :
    Calls Try.prog 17 #[.pointer (some ⟨B, 0, none⟩), .int .i64 (lo : Int), .int .i64 (hi : Int)] w fun e w' => e = .returned (.tuple #[]) ∧ SetAt w w' B (wordAt lo hi s (hi / 64 + 1)) := by
  have hst0 : Hid (SetAt w w B (wordAt lo hi s (lo / 64))) := h.start lo hi
  clear h
  go_enter Try.func17, Try.ntmps17
  go_wp2
  go_loopw [6] (fun i wr => ∃ k : Nat, lo / 64 ≤ k ∧ (k ≤ hi / 64 + 1 ∨ k = lo / 64) ∧ i = .int .i64 (k : Int) ∧ SetAt w wr B (wordAt lo hi s k)) (fun i _ => 5 - (intOf i).toNat)
  case atStart => exact ⟨lo / 64, Nat.le_refl _, .inr rfl, by go_num, hst0.out⟩
  case round =>
    clear hst0
    obtain ⟨k, hk1, hk2, rfl, hS⟩ := hrel
    have HS : Hid (SetAt w wr B (wordAt lo hi s k)) := hS
    by_cases hlt : k ≤ hi / 64
    · have hk4 : k < 4 := by omega
      have hc := hS.cell k hk4
      rw [wordAt, if_neg (by omega)] at hc
      have hf := hS.frozen k
      have hst : Hid (SetAt w (wr.setCell ⟨B, k, none⟩ (.int .u64 (bits .or .u64 (s k) (maskAt lo hi k)))).drew B (wordAt lo hi s (k + 1))) := hS.step hk1
      clear hS HS hk2
      by_cases e1 : k = lo / 64 <;> by_cases e2 : k = hi / 64
      · have q1 : ((k : Int) == (lo : Int) / 64) = true := by simp; omega
        have q2 : ((k : Int) == (hi : Int) / 64) = true := by simp; omega
        have hm : Hid (maskAt lo hi k = bits .and .u64 (bits .and .u64 18446744073709551615 (IntKind.u64.wrap (18446744073709551615 * 2 ^ (lo % 64)))) (18446744073709551615 / 2 ^ (63 - hi % 64))) := by unfold Hid maskAt; rw [if_pos e1, if_pos e2]
        clear e1 e2
        go_wp2
        rw [← hm.out]
        clear hm
        generalize maskAt lo hi k = mv at *
        generalize s k = sk at *
        go_region
        all_goals go_wp2
        all_goals
          go_roundw
          case rel => exact ⟨k + 1, by omega, .inl (by omega), by go_num, hst.out⟩
          case measure => simp [intOf]; omega
      · have q1 : ((k : Int) == (lo : Int) / 64) = true := by simp; omega
        have q2 : ((k : Int) == (hi : Int) / 64) = false := by simp; omega
        have hm : Hid (maskAt lo hi k = bits .and .u64 18446744073709551615 (IntKind.u64.wrap (18446744073709551615 * 2 ^ (lo % 64)))) := by unfold Hid maskAt; rw [if_pos e1, if_neg e2]
        clear e1 e2
        go_wp2
        rw [← hm.out]
        clear hm
        generalize maskAt lo hi k = mv at *
        generalize s k = sk at *
        go_region
        all_goals go_wp2
        all_goals
          go_roundw
          case rel => exact ⟨k + 1, by omega, .inl (by omega), by go_num, hst.out⟩
          case measure => simp [intOf]; omega
      · have q1 : ((k : Int) == (lo : Int) / 64) = false := by simp; omega
        have q2 : ((k : Int) == (hi : Int) / 64) = true := by simp; omega
        have hm : Hid (maskAt lo hi k = bits .and .u64 18446744073709551615 (18446744073709551615 / 2 ^ (63 - hi % 64))) := by unfold Hid maskAt; rw [if_neg e1, if_pos e2]
        clear e1 e2
        go_wp2
        rw [← hm.out]
        clear hm
        generalize maskAt lo hi k = mv at *
        generalize s k = sk at *
        go_region
        all_goals go_wp2
        all_goals
          go_roundw
          case rel => exact ⟨k + 1, by omega, .inl (by omega), by go_num, hst.out⟩
          case measure => simp [intOf]; omega
      · have q1 : ((k : Int) == (lo : Int) / 64) = false := by simp; omega
        have q2 : ((k : Int) == (hi : Int) / 64) = false := by simp; omega
        have hm : Hid (maskAt lo hi k = 18446744073709551615) := by unfold Hid maskAt; rw [if_neg e1, if_neg e2]
        clear e1 e2
        go_wp2
        rw [← hm.out]
        clear hm
        generalize maskAt lo hi k = mv at *
        generalize s k = sk at *
        go_region
        all_goals go_wp2
        all_goals
          go_roundw
          case rel => exact ⟨k + 1, by omega, .inl (by omega), by go_num, hst.out⟩
          case measure => simp [intOf]; omega
    · go_wp2
      go_end0
      exact ⟨rfl, HS.out.congr fun j => by
        unfold wordAt
        by_cases c : lo / 64 ≤ j ∧ j < k
        · rw [if_pos c, if_pos (by omega)]
        · rw [if_neg c, if_neg (by omega)]⟩
end Go.Proofs.Qxb6603436a
