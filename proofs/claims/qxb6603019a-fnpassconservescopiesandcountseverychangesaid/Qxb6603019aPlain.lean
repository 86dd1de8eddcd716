/-
  PLAIN LAWS OF 'pass': no Go in sight.
-/
import Derived.Test.Qxb6603019aPass
namespace Go.Proofs.Qxb6603019a
open Go.RowKit

/-- Whatever each step keeps, 'pass' keeps. -/
theorem passP_inv (Pr : St → Prop) (L : Int → List Int) (s0 : St) (n : Nat) (h0 : Pr s0) (hstep : ∀ a : Nat, a < n → ∀ s b, b ∈ L a → Pr s → Pr (stepP a s b)) : ∀ k, k ≤ n → Pr (passP L s0 k)
  | 0, _ => h0
  | k + 1, hk => by
    rw [passP_succ]
    have ih := passP_inv Pr L s0 n h0 hstep k (by omega)
    have hrow : ∀ (l : List Int) (s : St), (∀ b ∈ l, b ∈ L k) → Pr s → Pr (l.foldl (stepP k) s) := by
      intro l
      induction l with
      | nil => intro s _ h; exact h
      | cons b l ihl => intro s hb h; exact ihl _ (fun b' hb' => hb b' (.tail _ hb')) (hstep k (by omega) s b (hb b (.head _)) h)
    exact hrow _ _ (fun _ h => h) ih

/-- One transfer, or nothing: the three ways of a step. -/
theorem stepP_cases (a : Nat) (s : St) (b : Int) (n : Nat) (_hn : s.h.length = n) (ha : a < n) (hb : (a : Int) ≤ b → b < n) :
    stepP a s b = s ∨ ∃ (p q : Nat), p < n ∧ q < n ∧ p ≠ q ∧ 1 < s.h.getD p 0 ∧ s.h.getD q 0 = 0 ∧ ((p = a ∧ (q : Int) = b ∧ a < q) ∨ ((p : Int) = b ∧ q = a ∧ a < p)) ∧
      stepP a s b = ⟨handH s.h p q, handG (s.h.getD p 0) s.g, wrap64 (s.t + 1), true⟩ := by
  by_cases hlt : b < a
  · exact .inl (stepP_lt hlt)
  · obtain ⟨bn, rfl⟩ := Int.eq_ofNat_of_zero_le (show 0 ≤ b by omega)
    have hbn : bn < n := by have := hb (by omega); omega
    have hab : a ≤ bn := by omega
    by_cases c1 : 1 < s.h.getD a 0 ∧ s.h.getD bn 0 = 0
    · have hne : a ≠ bn := fun e => by rw [← e] at c1; omega
      exact .inr ⟨a, bn, ha, hbn, hne, c1.1, c1.2, .inl ⟨rfl, rfl, by omega⟩, stepP_ab hab c1.1 c1.2⟩
    · by_cases c2 : 1 < s.h.getD bn 0 ∧ s.h.getD a 0 = 0
      · have hne : bn ≠ a := fun e => by rw [e] at c2; omega
        exact .inr ⟨bn, a, hbn, ha, hne, c2.1, c2.2, .inr ⟨rfl, rfl, by omega⟩, stepP_ba hab c1 c2.1 c2.2⟩
      · exact .inl (stepP_no hab c1 c2)

/-- x and y are linked as 'pass' looks at them. -/
def Linked (L : Int → List Int) (n x y : Nat) : Prop := x < y ∧ y < n ∧ (y : Int) ∈ L x
/-- i is linked with a node that holds a copy. -/
def NearBy (L : Int → List Int) (n : Nat) (h : List Int) (i : Nat) : Prop := ∃ j, (Linked L n i j ∨ Linked L n j i) ∧ 1 ≤ h.getD j 0

theorem handH_pos {h : List Int} {p q : Nat} (hp : p < h.length) (hq : q < h.length) (hx : 1 < h.getD p 0) (j : Nat) (hj : 1 ≤ h.getD j 0) : 1 ≤ (handH h p q).getD j 0 := by
  rw [handH_at h p q j hp hq]
  split
  · omega
  · split <;> omega

/-- Domain: what 'pass' needs of the lists. -/
def DomAll (n : Nat) (L : Int → List Int) : Prop := ∀ a : Nat, a < n → ∀ b ∈ L a, b < n

theorem moves_law (L : Int → List Int) (s0 : St) (n : Nat) (hn : s0.h.length = n) (hd : DomAll n L) (k : Nat) (hk : k ≤ n) :
    ∀ i, i < n → (passP L s0 k).h.getD i 0 = s0.h.getD i 0 ∨ NearBy L n (passP L s0 k).h i := by
  have := passP_inv (fun s => s.h.length = n ∧ ∀ i, i < n → s.h.getD i 0 = s0.h.getD i 0 ∨ NearBy L n s.h i) L s0 n ⟨hn, fun i _ => .inl rfl⟩ (fun a ha s b hb ⟨hl, hs⟩ => ?_) k hk
  · exact this.2
  · refine ⟨(stepP_length a s b).trans hl, fun i hi => ?_⟩
    rcases stepP_cases a s b n hl ha (fun _ => hd a ha b hb) with e | ⟨p, q, hp, hq, hne, hx, hz, hl2, e⟩
    · rw [e]; exact hs i hi
    · rw [e]
      show (handH s.h p q).getD i 0 = _ ∨ NearBy L n (handH s.h p q) i
      have hp' : p < s.h.length := by omega
      have hq' : q < s.h.length := by omega
      have hlink : Linked L n p q ∨ Linked L n q p := by
        rcases hl2 with ⟨rfl, h2, h3⟩ | ⟨h1, rfl, h3⟩
        · exact .inl ⟨h3, hq, by rw [h2]; exact hb⟩
        · exact .inr ⟨h3, hp, by rw [h1]; exact hb⟩
      by_cases e1 : i = q
      · subst e1
        refine .inr ⟨p, hlink.symm, ?_⟩
        rw [handH_at s.h p i p hp' hq', if_neg hne, if_pos rfl]
        omega
      · by_cases e2 : i = p
        · subst e2
          refine .inr ⟨q, hlink, ?_⟩
          rw [handH_at s.h i q q hp' hq', if_pos rfl]
          omega
        · rcases hs i hi with h | ⟨j, hj, hpos⟩
          · refine .inl ?_
            rw [handH_at s.h p q i hp' hq', if_neg e1, if_neg e2]
            exact h
          · exact .inr ⟨j, hj, handH_pos hp' hq' hx j hpos⟩
end Go.Proofs.Qxb6603019a
