/-
  WHAT BOTH LAWS HAVE BEHIND THEIR CALL OF 'ZZSprayedPass'.
-/
import Derived.Test.Qxb6603019aSpray
import Derived.Test.Qxb6603019aPlain
namespace Go.Proofs.Qxb6603019a
open Go.RowKit

/-- The facts on the world w5 behind the call. -/
structure Tail (w w5 : World) (h : List Int) (s' : St) (ao oo : Option Addr) (m' : Option Nat) (A' : Int → Option Addr) (L' : Int → List Int) (C' : Int → Nat) (hs' : Int → Bool) : Prop where
  new : IntsAt w5 ao s'.h
  old : IntsAt w5 oo h
  links : LinksAt w5 m' A' L' C' hs'
  below : Below w.heap.size w w5
  len : s'.h.length = h.length
  dom : DomAll h.length L'

theorem domAll_of {n : Nat} {L L' : Int → List Int} {ks : List Int} (hd : Dom n L ks ks.length) (hL : ∀ x, L' x = [] ∨ (x ∈ ks ∧ L' x = L x)) (x : Int) : DomAt n L' x := by
  rcases hL x with h | ⟨hx, h⟩
  · intro _ _ j hj; rw [h] at hj; simp at hj
  · obtain ⟨i, hi, rfl⟩ := List.getElem_of_mem hx
    intro h0 h1 j hj
    rw [h] at hj ⊢
    have := hd i hi
    simp [hi] at this
    have := this h0 h1 j hj
    simpa using this

theorem finalSt_length (L : Int → List Int) (s0 : St) : (finalSt L s0).h.length = s0.h.length := by
  unfold finalSt
  split
  · rfl
  · exact passP_length _ _ _

/-- From the contracts' own words to the facts. -/
theorem tail_of {w W0 w1 w2 w3 w4 w5 : World} {h : List Int} {s0 : St} {ao oo : Option Addr} {m' : Option Nat} {A' : Int → Option Addr} {L' : Int → List Int} {C' : Int → Nat} {hs' : Int → Bool}
    (hs0 : s0.h = h) (b0 : Below w.heap.size w W0) (b1 : Below W0.heap.size W0 w1) (b2 : Below w1.heap.size w1 w2) (b3 : Below w2.heap.size w2 w3) (b4 : Below w3.heap.size w3 w4)
    (r1 : RowAt w1 ao W0.heap.size h) (r4 : RowAt w4 oo w3.heap.size h) (hl : LinksAt w3 m' A' L' C' hs') (hA : ∀ x ad, A' x = some ad → w2.heap.size ≤ ad.block) (hm : ∀ b, m' = some b → w2.heap.size ≤ b)
    (hd : ∀ x, DomAt h.length L' x) (r5 : RowAt w5 ao W0.heap.size (finalSt L' s0).h) (one : One w4 w5 ao W0.heap.size) :
    Tail w w5 h (finalSt L' s0) ao oo m' A' L' C' hs' := by
  have g1 : ao ≠ none → W0.heap.size < w1.heap.size := fun hne => by
    rcases r1 with ⟨e, _⟩ | ⟨_, h, _⟩
    · exact absurd e hne
    · exact h
  have s2 := b2.size
  have s3 := b3.size
  have s4 := b4.size
  have sep : ∀ b, w2.heap.size ≤ b → (ao = none ∨ b ≠ W0.heap.size) := fun b hb => by
    by_cases hne : ao = none
    · exact .inl hne
    · exact .inr (by have := g1 hne; omega)
  refine ⟨r5.ints, ?_, ?_, ?_, by rw [finalSt_length, hs0], ?_⟩
  · refine r4.ints.kept one.size fun b off e hb => one.block b hb (sep b ?_)
    rcases r4 with ⟨e', _⟩ | ⟨e', _⟩
    · rw [e'] at e; simp at e
    · rw [e'] at e; simp at e; omega
  · have hl4 := hl.below b4
    refine ⟨hl4.map.kept one.size fun b e hb => one.block b hb (sep b (hm b e)), hl4.off, fun x => (hl4.ints x).kept one.size fun b off e hb => one.block b hb (sep b (hA x _ e)), hl4.len⟩
  · have z0 := b0.size
    have z1 := b1.size
    have b14 : Below w.heap.size w w4 := ((((b0.trans (b1.mono z0)).trans (b2.mono (by omega))).trans (b3.mono (by omega))).trans (b4.mono (by omega)))
    refine ⟨one.os.trans b14.os, one.tape.trans b14.tape, one.output.trans b14.output, Nat.le_trans b14.size one.size, fun k hk => ?_⟩
    by_cases e : k = W0.heap.size
    · by_cases hne : ao = none
      · exact (one.block k (by omega) (.inl hne)).trans (b14.block k hk)
      · omega
    · exact (one.block k (by omega) (.inr e)).trans (b14.block k hk)
  · intro a ha b hb
    obtain ⟨j, hj, rfl⟩ := List.getElem_of_mem hb
    have := hd a (by omega) (by omega) j hj
    simpa [hj] using this
end Go.Proofs.Qxb6603019a
