/-
  THE PLAIN LAW of 'FnPlacesAcceptsHeaderThenOptional': the header that lists the first n ordered columns, with a column of 'any' put in at one place or with none. No Go in sight.
-/
import Derived.Test.Qxb6603151aPlain
namespace Go.Proofs.Qxb6603151a

/-- The header behind p rounds of the law's loop: 'ins' says which column is put in, and where. -/
def nmTo (ord : List Str) (ins : Option (Nat × Str)) : Nat → List Str
  | 0 => []
  | p + 1 => nmTo ord ins p ++ (match ins with | some (a, x) => if p = a then [x] else [] | none => []) ++ [ord.getD p ByteArray.empty]
/-- The whole header. -/
def nmAll (ord : List Str) (ins : Option (Nat × Str)) (n : Nat) : List Str := nmTo ord ins n ++ (match ins with | some (a, x) => if a = n then [x] else [] | none => [])

theorem nmTo_none (ord : List Str) : ∀ n, (nmTo ord none n).length = n ∧ ∀ i, i < n → (nmTo ord none n).getD i ByteArray.empty = ord.getD i ByteArray.empty
  | 0 => ⟨rfl, fun i h => absurd h (Nat.not_lt_zero _)⟩
  | n + 1 => by
    obtain ⟨h1, h2⟩ := nmTo_none ord n
    have e : nmTo ord none (n + 1) = nmTo ord none n ++ [ord.getD n ByteArray.empty] := by simp [nmTo]
    refine ⟨by rw [e]; simp [h1], fun i hi => ?_⟩
    rw [e]
    by_cases c : i < n
    · rw [← h2 i c]
      simp [List.getElem?_append, h1, c]
    · obtain rfl : i = n := by omega
      simp [h1]

/-- Where the column stands among the first p rounds' list. -/
theorem nmTo_some (ord : List Str) (a : Nat) (x : Str) : ∀ n, (nmTo ord (some (a, x)) n).length = (if a < n then n + 1 else n) ∧
    ∀ i, i < (if a < n then n + 1 else n) → (nmTo ord (some (a, x)) n).getD i ByteArray.empty = if a < n ∧ i = a then x else if a < n ∧ a < i then ord.getD (i - 1) ByteArray.empty else ord.getD i ByteArray.empty
  | 0 => ⟨by simp [nmTo], fun i h => by simp at h⟩
  | n + 1 => by
    obtain ⟨h1, h2⟩ := nmTo_some ord a x n
    by_cases ha : n = a
    · subst ha
      have e : nmTo ord (some (n, x)) (n + 1) = nmTo ord (some (n, x)) n ++ [x, ord.getD n ByteArray.empty] := by simp [nmTo]
      rw [if_neg (Nat.lt_irrefl n)] at h1 h2
      refine ⟨by rw [e]; simp [h1], fun i hi => ?_⟩
      rw [if_pos (Nat.lt_succ_self n)] at hi
      rw [e]
      by_cases c : i < n
      · have := h2 i c
        rw [if_neg (by omega), if_neg (by omega)] at this
        rw [if_neg (by omega), if_neg (by omega), ← this]
        simp [List.getElem?_append, h1, c]
      · by_cases c2 : i = n
        · subst c2
          rw [if_pos ⟨by omega, rfl⟩]
          simp [h1]
        · obtain rfl : i = n + 1 := by omega
          rw [if_neg (by omega), if_pos ⟨by omega, by omega⟩]
          simp [h1]
    · have e : nmTo ord (some (a, x)) (n + 1) = nmTo ord (some (a, x)) n ++ [ord.getD n ByteArray.empty] := by simp [nmTo, ha]
      by_cases hlt : a < n
      · rw [if_pos hlt] at h1 h2
        refine ⟨by rw [e, if_pos (by omega)]; simp [h1], fun i hi => ?_⟩
        rw [if_pos (show a < n + 1 by omega)] at hi
        rw [e]
        by_cases c : i < n + 1
        · have := h2 i c
          have e1 : (nmTo ord (some (a, x)) n ++ [ord.getD n ByteArray.empty]).getD i ByteArray.empty = (nmTo ord (some (a, x)) n).getD i ByteArray.empty := by
            simp [List.getElem?_append, h1, c]
          rw [e1, this]
          simp [hlt, show a < n + 1 by omega]
        · obtain rfl : i = n + 1 := by omega
          rw [if_neg (by omega), if_pos ⟨by omega, by omega⟩]
          simp [h1]
      · rw [if_neg hlt] at h1 h2
        refine ⟨by rw [e, if_neg (by omega)]; simp [h1], fun i hi => ?_⟩
        rw [if_neg (show ¬ a < n + 1 by omega)] at hi
        rw [e, if_neg (by omega), if_neg (by omega)]
        by_cases c : i < n
        · have := h2 i c
          rw [if_neg (by omega), if_neg (by omega)] at this
          rw [← this]
          simp [List.getElem?_append, h1, c]
        · obtain rfl : i = n := by omega
          simp [h1]

theorem nmAll_none (ord : List Str) (n : Nat) : (nmAll ord none n).length = n ∧ ∀ i, i < n → (nmAll ord none n).getD i ByteArray.empty = ord.getD i ByteArray.empty := by
  have e : nmAll ord none n = nmTo ord none n := by simp [nmAll]
  rw [e]; exact nmTo_none ord n

theorem nmAll_some (ord : List Str) (a n : Nat) (x : Str) (ha : a ≤ n) : (nmAll ord (some (a, x)) n).length = n + 1 ∧
    ∀ i, i < n + 1 → (nmAll ord (some (a, x)) n).getD i ByteArray.empty = if i = a then x else if a < i then ord.getD (i - 1) ByteArray.empty else ord.getD i ByteArray.empty := by
  obtain ⟨h1, h2⟩ := nmTo_some ord a x n
  by_cases e : a = n
  · subst e
    rw [if_neg (Nat.lt_irrefl a)] at h1 h2
    have e : nmAll ord (some (a, x)) a = nmTo ord (some (a, x)) a ++ [x] := by simp [nmAll]
    rw [e]
    refine ⟨by simp [h1], fun i hi => ?_⟩
    by_cases c : i < a
    · have := h2 i c
      rw [if_neg (by omega), if_neg (by omega)] at this
      rw [if_neg (by omega), if_neg (by omega), ← this]
      simp [List.getElem?_append, h1, c]
    · obtain rfl : i = a := by omega
      rw [if_pos rfl]
      simp [h1]
  · have hlt : a < n := by omega
    rw [if_pos hlt] at h1 h2
    have e : nmAll ord (some (a, x)) n = nmTo ord (some (a, x)) n := by simp [nmAll, e]
    rw [e]
    refine ⟨h1, fun i hi => ?_⟩
    rw [h2 i hi]
    simp [hlt]

/-- No column is put in. -/
theorem accepts_none (any ord : List Str) (n : Nat) (hn : n ≤ ord.length) (hno : ∀ p, p < n → ¬ 0 ≤ idx any (ord.getD p ByteArray.empty)) :
    ∀ i, i ≤ n → (⟨any, ord, nmAll ord none n⟩ : Cols).okTo i ∧ (⟨any, ord, nmAll ord none n⟩ : Cols).rest i = i ∧ ∀ j, j < i → (⟨any, ord, nmAll ord none n⟩ : Cols).placeOf j = (j : Int)
  | 0, _ => ⟨fun j hj => absurd hj (Nat.not_lt_zero _), rfl, fun j hj => absurd hj (Nat.not_lt_zero _)⟩
  | i + 1, hi => by
    obtain ⟨h1, h2, h3⟩ := accepts_none any ord n hn hno i (by omega)
    have hnm : (⟨any, ord, nmAll ord none n⟩ : Cols).nm i = ord.getD i ByteArray.empty := (nmAll_none ord n).2 i (by omega)
    have hp : (⟨any, ord, nmAll ord none n⟩ : Cols).pick i = false := Cols.pick_none (by unfold Cols.ix; rw [hnm]; exact hno i (by omega))
    refine ⟨Cols.okTo_succ h1 (.inr ⟨by rw [h2]; show i < ord.length; omega, by rw [h2, hnm]⟩), by rw [Cols.rest_succ_no hp, h2], fun j hj => ?_⟩
    rcases Nat.lt_succ_iff_lt_or_eq.1 hj with hj | rfl
    · exact h3 j hj
    · rw [Cols.placeOf_no hp, h2]

/-- The k-th of 'any' is put in at place a. -/
theorem accepts_some (any ord : List Str) (n a k : Nat) (hn : n ≤ ord.length) (ha : a ≤ n) (hx : idx any (any.getD k ByteArray.empty) = (k : Int)) (hno : ∀ p, p < n → ¬ 0 ≤ idx any (ord.getD p ByteArray.empty)) :
    ∀ i, i ≤ n + 1 → (⟨any, ord, nmAll ord (some (a, any.getD k ByteArray.empty)) n⟩ : Cols).okTo i ∧
      (⟨any, ord, nmAll ord (some (a, any.getD k ByteArray.empty)) n⟩ : Cols).rest i = (if a < i then i - 1 else i) ∧
      ∀ j, j < i → (⟨any, ord, nmAll ord (some (a, any.getD k ByteArray.empty)) n⟩ : Cols).placeOf j = if j = a then (ord.length : Int) + k else if a < j then (j : Int) - 1 else (j : Int)
  | 0, _ => ⟨fun j hj => absurd hj (Nat.not_lt_zero _), rfl, fun j hj => absurd hj (Nat.not_lt_zero _)⟩
  | i + 1, hi => by
    obtain ⟨h1, h2, h3⟩ := accepts_some any ord n a k hn ha hx hno i (by omega)
    have hall := (nmAll_some ord a n (any.getD k ByteArray.empty) ha).2
    generalize hc : (⟨any, ord, nmAll ord (some (a, any.getD k ByteArray.empty)) n⟩ : Cols) = c at *
    have ho : c.ord = ord := by rw [← hc]
    have hnm : ∀ j, j < n + 1 → c.nm j = if j = a then any.getD k ByteArray.empty else if a < j then ord.getD (j - 1) ByteArray.empty else ord.getD j ByteArray.empty := fun j hj => by
      rw [← hc]; exact hall j hj
    have hix : ∀ j, c.ix j = idx any (c.nm j) := fun j => by rw [← hc]; rfl
    have ix1 : ∀ j, j < n + 1 → j ≠ a → ¬ 0 ≤ c.ix j := fun j hj hne => by
      rw [hix, hnm j hj, if_neg hne]
      split
      · exact hno _ (by omega)
      · exact hno _ (by omega)
    by_cases e : i = a
    · subst e
      have hxi : c.ix i = (k : Int) := by rw [hix, hnm i (by omega), if_pos rfl]; exact hx
      have htk : c.tk i (c.ix i) = false := by
        unfold Cols.tk
        rw [List.any_eq_false]
        intro j hj
        have hj := List.mem_range.1 hj
        have := ix1 j (by omega) (by omega)
        simp
        omega
      have hp : c.pick i = true := Cols.pick_yes (by omega) htk
      rw [if_neg (Nat.lt_irrefl i)] at h2
      refine ⟨Cols.okTo_succ h1 (.inl hp), by rw [Cols.rest_succ_pick hp, h2, if_pos (by omega)]; omega, fun j hj => ?_⟩
      rcases Nat.lt_succ_iff_lt_or_eq.1 hj with hj | rfl
      · exact h3 j hj
      · rw [Cols.placeOf_pick hp, hxi, if_pos rfl, ho]
    · have hp : c.pick i = false := Cols.pick_none (ix1 i (by omega) e)
      by_cases l : a < i
      · rw [if_pos l] at h2
        have hn1 := hnm i (by omega)
        rw [if_neg e, if_pos l] at hn1
        refine ⟨Cols.okTo_succ h1 (.inr ⟨by rw [h2, ho]; omega, by rw [h2, ho, hn1]⟩), by rw [Cols.rest_succ_no hp, h2, if_pos (by omega)]; omega, fun j hj => ?_⟩
        rcases Nat.lt_succ_iff_lt_or_eq.1 hj with hj | rfl
        · exact h3 j hj
        · rw [Cols.placeOf_no hp, h2, if_neg e, if_pos l]; omega
      · rw [if_neg l] at h2
        have hn1 := hnm i (by omega)
        rw [if_neg e, if_neg l] at hn1
        refine ⟨Cols.okTo_succ h1 (.inr ⟨by rw [h2, ho]; omega, by rw [h2, ho, hn1]⟩), by rw [Cols.rest_succ_no hp, h2, if_neg (by omega)], fun j hj => ?_⟩
        rcases Nat.lt_succ_iff_lt_or_eq.1 hj with hj | rfl
        · exact h3 j hj
        · rw [Cols.placeOf_no hp, h2, if_neg e, if_neg l]
end Go.Proofs.Qxb6603151a
