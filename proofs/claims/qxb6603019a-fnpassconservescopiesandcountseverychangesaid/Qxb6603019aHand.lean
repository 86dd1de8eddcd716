/-
  'hand' (function 38): one transfer.
-/
import Derived.Test.Qxb6603019aBase
namespace Go.Proofs.Qxb6603019a
open Go.RowKit

/-- The object behind the pointer O: its row gh holds h, its counters g and t. -/
structure SprayAt (w : World) (O gh cap : Nat) (h : List Int) (g t : Int) : Prop where
  c0 : w.cell? ⟨O, 0, none⟩ = some (.slice (some ⟨gh, 0, none⟩) h.length cap)
  c1 : w.cell? ⟨O, 1, none⟩ = some (.int .i64 g)
  c2 : w.cell? ⟨O, 2, none⟩ = some (.int .i64 t)
  f1 : w.frozen? ⟨O, 1, none⟩ = false
  f2 : w.frozen? ⟨O, 2, none⟩ = false
  row : ∀ j, j < h.length → w.cell? ⟨gh, j, none⟩ = some (.int .i64 (h.getD j 0))
  frow : ∀ j, w.frozen? ⟨gh, j, none⟩ = false
  ne : O ≠ gh

/-- Blocks O and gh alone have turned. -/
structure Two (w w' : World) (O gh : Nat) : Prop where
  os : w'.os = w.os
  tape : w'.tape = w.tape
  output : w'.output = w.output
  size : w'.heap.size = w.heap.size
  block : ∀ k, k ≠ O → k ≠ gh → w'.heap[k]? = w.heap[k]?

theorem Two.refl (w : World) (O gh : Nat) : Two w w O gh := ⟨rfl, rfl, rfl, rfl, fun _ _ _ => rfl⟩
theorem Two.trans {w w1 w2 : World} {O gh : Nat} (h : Two w w1 O gh) (k : Two w1 w2 O gh) : Two w w2 O gh :=
  ⟨k.os.trans h.os, k.tape.trans h.tape, k.output.trans h.output, k.size.trans h.size, fun i h1 h2 => (k.block i h1 h2).trans (h.block i h1 h2)⟩
theorem Two.setCell {w w1 : World} {O gh : Nat} (h : Two w w1 O gh) (b o : Nat) (v : Value) (hb : b = O ∨ b = gh) : Two w (w1.setCell ⟨b, o, none⟩ v) O gh :=
  h.trans ⟨rfl, rfl, rfl, by simp, fun k h1 h2 => Below.heap_setCell w1 _ _ k (by rcases hb with rfl | rfl <;> assumption)⟩

theorem SprayAt.setRow {w : World} {O gh cap : Nat} {h : List Int} {g t : Int} (s : SprayAt w O gh cap h g t) (j : Nat) (v : Int) (hj : j < h.length) :
    SprayAt (w.setCell ⟨gh, j, none⟩ (.int .i64 v)) O gh cap (h.set j v) g t := by
  have o : ∀ i, (⟨gh, j, none⟩ : Addr) ≠ ⟨O, i, none⟩ := fun i e => s.ne (by injection e with e1 _ _; exact e1.symm)
  refine ⟨?_, ?_, ?_, ?_, ?_, fun i hi => ?_, fun i => ?_, s.ne⟩
  · rw [World.cell?_setCell_other _ _ _ _ (o 0), List.length_set]; exact s.c0
  · rw [World.cell?_setCell_other _ _ _ _ (o 1)]; exact s.c1
  · rw [World.cell?_setCell_other _ _ _ _ (o 2)]; exact s.c2
  · rw [World.frozen?_setCell]; exact s.f1
  · rw [World.frozen?_setCell]; exact s.f2
  · rw [List.length_set] at hi
    by_cases e : j = i
    · subst e
      rw [World.cell?_setCell_same _ _ _ (s.row _ hj)]
      simp [hj]
    · rw [World.cell?_setCell_other _ _ _ _ (fun c => e (by injection c)), s.row i hi]
      simp [e]
  · rw [World.frozen?_setCell]; exact s.frow i

theorem SprayAt.setG {w : World} {O gh cap : Nat} {h : List Int} {g t : Int} (s : SprayAt w O gh cap h g t) (v : Int) :
    SprayAt (w.setCell ⟨O, 1, none⟩ (.int .i64 v)) O gh cap h v t := by
  have o : ∀ i, (⟨O, 1, none⟩ : Addr) ≠ ⟨gh, i, none⟩ := fun i e => s.ne (by injection e)
  refine ⟨?_, ?_, ?_, ?_, ?_, fun i hi => ?_, fun i => ?_, s.ne⟩
  · rw [World.cell?_setCell_other _ _ _ _ (by simp)]; exact s.c0
  · rw [World.cell?_setCell_same _ _ _ s.c1]
  · rw [World.cell?_setCell_other _ _ _ _ (by simp)]; exact s.c2
  · rw [World.frozen?_setCell]; exact s.f1
  · rw [World.frozen?_setCell]; exact s.f2
  · rw [World.cell?_setCell_other _ _ _ _ (o i)]; exact s.row i hi
  · rw [World.frozen?_setCell]; exact s.frow i

theorem SprayAt.setT {w : World} {O gh cap : Nat} {h : List Int} {g t : Int} (s : SprayAt w O gh cap h g t) (v : Int) :
    SprayAt (w.setCell ⟨O, 2, none⟩ (.int .i64 v)) O gh cap h g v := by
  have o : ∀ i, (⟨O, 2, none⟩ : Addr) ≠ ⟨gh, i, none⟩ := fun i e => s.ne (by injection e)
  refine ⟨?_, ?_, ?_, ?_, ?_, fun i hi => ?_, fun i => ?_, s.ne⟩
  · rw [World.cell?_setCell_other _ _ _ _ (by simp)]; exact s.c0
  · rw [World.cell?_setCell_other _ _ _ _ (by simp)]; exact s.c1
  · rw [World.cell?_setCell_same _ _ _ s.c2]
  · rw [World.frozen?_setCell]; exact s.f1
  · rw [World.frozen?_setCell]; exact s.f2
  · rw [World.cell?_setCell_other _ _ _ _ (o i)]; exact s.row i hi
  · rw [World.frozen?_setCell]; exact s.frow i

def handH (h : List Int) (a b : Nat) : List Int := (h.set a (h.getD a 0 - h.getD a 0 / 2)).set b (h.getD a 0 / 2)
def handG (x g : Int) : Int := if x = 2 then wrap64 (g - 1) else if 4 ≤ x then wrap64 (g + 1) else g

set_option maxHeartbeats 800000 in
theorem hand_any (O gh cap : Nat) (h : List Int) (g t : Int) (a b : Nat) (w : World) (s : SprayAt w O gh cap h g t) (ha : a < h.length) (hb : b < h.length) (hab : a ≠ b)
    (hx : 1 < h.getD a 0) (hx2 : h.getD a 0 ≤ 9223372036854775807) (_hl : h.length ≤ 65536) :
    Calls Try.prog 38 #[.pointer (some ⟨O, 0, none⟩), .int .i64 (a : Int), .int .i64 (b : Int)] w fun e w' =>
      e = .returned (.tuple #[]) ∧ SprayAt w' O gh cap (handH h a b) (handG (h.getD a 0) g) (wrap64 (t + 1)) ∧ Two w w' O gh := by
  have c0 := s.c0
  have c1 := s.c1
  have c2 := s.c2
  have f1 := s.f1
  have f2 := s.f2
  have ra := s.row a ha
  have rb := s.row b hb
  have fa := s.frow a
  have fb := s.frow b
  have ne := s.ne
  have s1 := (((s.setRow a (h.getD a 0 - h.getD a 0 / 2) ha).setRow b (h.getD a 0 / 2) (by simpa using hb)).setT (wrap64 (t + 1)))
  have HS : Hid _ := s1
  clear s1
  have S : Hid _ := s
  clear s
  unfold handH handG
  generalize h.getD a 0 = x at *
  have two : Hid (∀ v1 v2 v3 : Value, Two w (((w.setCell ⟨gh, a, none⟩ v1).setCell ⟨gh, b, none⟩ v2).setCell ⟨O, 2, none⟩ v3) O gh) := fun v1 v2 v3 =>
    (((Two.refl w O gh).setCell gh a v1 (.inr rfl)).setCell gh b v2 (.inr rfl)).setCell O 2 v3 (.inl rfl)
  by_cases x2 : x = 2
  · subst x2
    go_enter Try.func38, Try.ntmps38
    go_wp2
    go_end0
    exact ⟨rfl, HS.out.setG _, (two.out _ _ _).setCell O 1 _ (.inl rfl)⟩
  · by_cases x4 : 4 ≤ x
    · have n2 : ¬ x = 2 := by omega
      rw [if_neg n2, if_pos x4]
      go_enter Try.func38, Try.ntmps38
      go_wp2
      go_end0
      exact ⟨rfl, HS.out.setG _, (two.out _ _ _).setCell O 1 _ (.inl rfl)⟩
    · obtain rfl : x = 3 := by omega
      go_enter Try.func38, Try.ntmps38
      go_wp2
      go_end0
      exact ⟨rfl, HS.out, (two.out _ _ _)⟩
end Go.Proofs.Qxb6603019a
