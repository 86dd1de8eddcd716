/-
  PLAIN LAWS OF 'pass': what the counters count. No Go in sight.
-/
import Derived.Test.Qxb6603019aHead
namespace Go.Proofs.Qxb6603019a
open Go.RowKit

/-- The sum of F i (h[i]), i from i0 on. -/
def sumF (F : Nat → Int → Int) : Nat → List Int → Int
  | _, [] => 0
  | i, x :: r => F i x + sumF F (i + 1) r

theorem sumF_set (F : Nat → Int → Int) (v : Int) : ∀ (h : List Int) (i j : Nat), j < h.length → sumF F i (h.set j v) = sumF F i h - F (i + j) (h.getD j 0) + F (i + j) v
  | [], _, _, hj => by simp at hj
  | x :: r, i, 0, _ => by simp [sumF]; omega
  | x :: r, i, j + 1, hj => by
    have := sumF_set F v r (i + 1) j (by simpa using hj)
    simp only [List.set_cons_succ, sumF, this, List.getD_cons_succ]
    rw [show i + 1 + j = i + (j + 1) by omega]
    omega

theorem sumF_snoc (F : Nat → Int → Int) (x : Int) : ∀ (h : List Int) (i : Nat), sumF F i (h ++ [x]) = sumF F i h + F (i + h.length) x
  | [], _ => by simp [sumF]
  | y :: r, i => by
    simp only [List.cons_append, sumF, sumF_snoc F x r (i + 1), List.length_cons]
    rw [show i + 1 + r.length = i + (r.length + 1) by omega]
    omega

theorem sumF_take (F : Nat → Int → Int) (h : List Int) (k : Nat) (hk : k < h.length) : sumF F 0 (h.take (k + 1)) = sumF F 0 (h.take k) + F k (h.getD k 0) := by
  rw [List.take_succ_eq_append_getElem hk, sumF_snoc]
  simp [List.length_take, hk, Nat.min_eq_left (Nat.le_of_lt hk)]

theorem sumF_bound (F : Nat → Int → Int) (hF : ∀ i x, 0 ≤ F i x ∧ F i x ≤ 1) : ∀ (h : List Int) (i : Nat), 0 ≤ sumF F i h ∧ sumF F i h ≤ h.length
  | [], _ => by simp [sumF]
  | x :: r, i => by
    have := sumF_bound F hF r (i + 1)
    have := hF i x
    simp only [sumF, List.length_cons]
    omega

theorem sumF_congr {F G : Nat → Int → Int} : ∀ (h : List Int) (i : Nat), (∀ j, j < h.length → F (i + j) (h.getD j 0) = G (i + j) (h.getD j 0)) → sumF F i h = sumF G i h
  | [], _, _ => rfl
  | x :: r, i, e => by
    have e0 := e 0 (by simp)
    simp at e0
    have er : sumF F (i + 1) r = sumF G (i + 1) r := sumF_congr r (i + 1) fun j hj => by
      have := e (j + 1) (by simpa using hj)
      rw [show i + (j + 1) = i + 1 + j by omega] at this
      simpa using this
    simp only [sumF, e0, er]

def plain : Nat → Int → Int := fun _ x => x
def overF : Nat → Int → Int := fun _ x => if 1 < x then 1 else 0
def recvF (o : List Int) : Nat → Int → Int := fun i x => if o.getD i 0 = 0 ∧ 0 < x then 1 else 0

theorem sumF_hand (F : Nat → Int → Int) (h : List Int) (p q : Nat) (hp : p < h.length) (hq : q < h.length) (hne : p ≠ q) :
    sumF F 0 (handH h p q) = sumF F 0 h - F p (h.getD p 0) + F p (h.getD p 0 - h.getD p 0 / 2) - F q (h.getD q 0) + F q (h.getD p 0 / 2) := by
  unfold handH
  rw [sumF_set F _ _ 0 q (by simpa using hq), sumF_set F _ h 0 p hp]
  have : (h.set p (h.getD p 0 - h.getD p 0 / 2)).getD q 0 = h.getD q 0 := by
    simp [hne]
  rw [this]
  simp only [Nat.zero_add]

/-- How a node may have changed. -/
def Turn (o w : Int) : Prop := w = o ∨ (o = 0 ∧ 0 < w) ∨ (1 < o ∧ 1 ≤ w ∧ w < o)

structure Kept (s0 s : St) : Prop where
  len : s.h.length = s0.h.length
  turn : ∀ i, i < s0.h.length → Turn (s0.h.getD i 0) (s.h.getD i 0)
  sum : sumF plain 0 s.h = sumF plain 0 s0.h
  t : s.t = wrap64 (s0.t + sumF (recvF s0.h) 0 s.h)
  g : s.g = wrap64 (s0.g + (sumF overF 0 s.h - sumF overF 0 s0.h))
  m : s.m = decide (0 < sumF (recvF s0.h) 0 s.h)

theorem wrap_add (a b : Int) : wrap64 (wrap64 a + b) = wrap64 (a + b) := by unfold wrap64; omega
theorem wrap_in (a : Int) (h : -9223372036854775808 ≤ a ∧ a ≤ 9223372036854775807) : wrap64 a = a := by unfold wrap64; omega

theorem recv_start (o : List Int) : sumF (recvF o) 0 o = 0 := by
  have h : sumF (recvF o) 0 o = sumF (fun _ _ => 0) 0 o := sumF_congr o 0 fun j _ => by
    simp only [recvF, Nat.zero_add]
    split <;> omega
  rw [h]
  have : ∀ (l : List Int) (i : Nat), sumF (fun _ _ => 0) i l = 0 := by
    intro l
    induction l with
    | nil => intro i; rfl
    | cons x r ih => intro i; simp [sumF, ih]
  exact this o 0

theorem Kept.start (s0 : St) (hm : s0.m = false) (ht : -9223372036854775808 ≤ s0.t ∧ s0.t ≤ 9223372036854775807) (hg : -9223372036854775808 ≤ s0.g ∧ s0.g ≤ 9223372036854775807) : Kept s0 s0 := by
  refine ⟨rfl, fun i _ => .inl rfl, rfl, ?_, ?_, ?_⟩
  · rw [recv_start, wrap_in _ (by omega)]; omega
  · rw [wrap_in _ (by omega)]; omega
  · rw [recv_start, hm]; rfl

theorem Kept.step {s0 s : St} {a : Nat} {b : Int} (k : Kept s0 s) (ha : a < s0.h.length) (hb : (a : Int) ≤ b → b < s0.h.length) : Kept s0 (stepP a s b) := by
  rcases stepP_cases a s b s0.h.length k.len ha hb with e | ⟨p, q, hp, hq, hne, hx, hz, _, e⟩
  · rw [e]; exact k
  · rw [e]
    have hp' : p < s.h.length := by rw [k.len]; exact hp
    have hq' : q < s.h.length := by rw [k.len]; exact hq
    have tp := k.turn p hp
    have tq := k.turn q hq
    have rsum : sumF (recvF s0.h) 0 (handH s.h p q) = sumF (recvF s0.h) 0 s.h + 1 := by
      rw [sumF_hand _ _ _ _ hp' hq' hne, hz]
      unfold recvF
      unfold Turn at tp tq
      rw [hz] at tq
      have oq : s0.h.getD q 0 = 0 := by omega
      have e1 : (if s0.h.getD p 0 = 0 ∧ 0 < s.h.getD p 0 - s.h.getD p 0 / 2 then (1 : Int) else 0) = if s0.h.getD p 0 = 0 ∧ 0 < s.h.getD p 0 then 1 else 0 := by
        by_cases c : s0.h.getD p 0 = 0
        · rw [if_pos ⟨c, by omega⟩, if_pos ⟨c, by omega⟩]
        · rw [if_neg (fun d => c d.1), if_neg (fun d => c d.1)]
      rw [e1, if_neg (show ¬ (s0.h.getD q 0 = 0 ∧ (0 : Int) < 0) by omega), if_pos (show s0.h.getD q 0 = 0 ∧ 0 < s.h.getD p 0 / 2 by omega)]
      omega
    have rpos : 0 ≤ sumF (recvF s0.h) 0 s.h := (sumF_bound _ (fun i x => by unfold recvF; split <;> omega) s.h 0).1
    refine ⟨(handH_length _ _ _).trans k.len, fun i hi => ?_, ?_, ?_, ?_, ?_⟩
    · show Turn _ ((handH s.h p q).getD i 0)
      rw [handH_at s.h p q i hp' hq']
      by_cases e1 : i = q
      · subst e1
        rw [if_pos rfl]
        unfold Turn at tq ⊢
        omega
      · rw [if_neg e1]
        by_cases e2 : i = p
        · subst e2
          rw [if_pos rfl]
          unfold Turn at tp ⊢
          omega
        · rw [if_neg e2]; exact k.turn i hi
    · show sumF plain 0 (handH s.h p q) = _
      rw [sumF_hand _ _ _ _ hp' hq' hne, hz, ← k.sum]
      unfold plain
      omega
    · show wrap64 (s.t + 1) = _
      show _ = wrap64 (s0.t + sumF (recvF s0.h) 0 (handH s.h p q))
      rw [rsum, k.t, wrap_add, show s0.t + sumF (recvF s0.h) 0 s.h + 1 = s0.t + (sumF (recvF s0.h) 0 s.h + 1) by omega]
    · show handG (s.h.getD p 0) s.g = wrap64 (s0.g + (sumF overF 0 (handH s.h p q) - sumF overF 0 s0.h))
      rw [sumF_hand _ _ _ _ hp' hq' hne, hz]
      have o1 : overF p (s.h.getD p 0) = 1 := by unfold overF; rw [if_pos hx]
      have o0 : overF q 0 = 0 := by unfold overF; rw [if_neg (by omega)]
      rw [o1, o0]
      unfold handG
      by_cases c2 : s.h.getD p 0 = 2
      · rw [if_pos c2, c2]
        have u1 : overF p (2 - 2 / 2) = 0 := by unfold overF; rw [if_neg (by omega)]
        have u2 : overF q (2 / 2) = 0 := by unfold overF; rw [if_neg (by omega)]
        rw [u1, u2, k.g, show ∀ x : Int, wrap64 x - 1 = wrap64 x + (-1) from fun x => by omega, wrap_add]
        congr 1
        omega
      · rw [if_neg c2]
        have u1 : overF p (s.h.getD p 0 - s.h.getD p 0 / 2) = 1 := by unfold overF; rw [if_pos (by omega)]
        by_cases c4 : 4 ≤ s.h.getD p 0
        · rw [if_pos c4]
          have u2 : overF q (s.h.getD p 0 / 2) = 1 := by unfold overF; rw [if_pos (by omega)]
          rw [u1, u2, k.g, wrap_add]
          congr 1
          omega
        · rw [if_neg c4]
          have u2 : overF q (s.h.getD p 0 / 2) = 0 := by unfold overF; rw [if_neg (by omega)]
          rw [u1, u2, k.g]
          congr 1
          omega
    · show true = decide (0 < sumF (recvF s0.h) 0 (handH s.h p q))
      rw [rsum]
      simp
      omega

theorem kept_law (L : Int → List Int) (s0 : St) (hd : DomAll s0.h.length L) (hm : s0.m = false) (ht : -9223372036854775808 ≤ s0.t ∧ s0.t ≤ 9223372036854775807) (hg : -9223372036854775808 ≤ s0.g ∧ s0.g ≤ 9223372036854775807) :
    Kept s0 (finalSt L s0) := by
  unfold finalSt
  split
  · exact Kept.start s0 hm ht hg
  · exact passP_inv (Kept s0) L s0 s0.h.length (Kept.start s0 hm ht hg) (fun a ha s b hb k => k.step ha (fun _ => hd a ha b hb)) _ (Nat.le_refl _)
end Go.Proofs.Qxb6603019a
