/-
  THE PLAIN FUNCTIONS OF 'places': no Go in sight.
-/
import Derived.Test.Qxb6603151aBase
namespace Go.Proofs.Qxb6603151a

/-- The data: the columns that may stand anywhere, those of header then optional, the file's header. -/
structure Cols where
  any : List Str
  ord : List Str
  names : List Str

namespace Cols
variable (c : Cols)
def nm (i : Nat) : Str := c.names.getD i ByteArray.empty
def ix (i : Nat) : Int := idx c.any (c.nm i)
/-- The k-th of 'any' has been met among the first i columns. -/
def tk (i : Nat) (k : Int) : Bool := (List.range i).any fun j => c.ix j == k
def pick (i : Nat) : Bool := decide (0 ≤ c.ix i) && !c.tk i (c.ix i)
/-- How many of the first i columns are ordered ones. -/
def rest : Nat → Nat
  | 0 => 0
  | i + 1 => rest i + if c.pick i then 0 else 1
def placeOf (i : Nat) : Int := if c.pick i then (c.ord.length : Int) + c.ix i else (c.rest i : Int)
def okAt (i : Nat) : Prop := c.pick i = true ∨ (c.rest i < c.ord.length ∧ (c.nm i).toList = (c.ord.getD (c.rest i) ByteArray.empty).toList)
def okTo (i : Nat) : Prop := ∀ j, j < i → c.okAt j
def out (i : Nat) (j : Nat) : Int := if j < i then c.placeOf j else 0
end Cols

namespace Cols
variable {c : Cols}
theorem tk_zero (k : Int) : c.tk 0 k = false := rfl
theorem tk_succ (i : Nat) (k : Int) : c.tk (i + 1) k = (c.tk i k || c.ix i == k) := by
  simp [tk, List.range_succ]
theorem rest_succ_pick {i : Nat} (h : c.pick i = true) : c.rest (i + 1) = c.rest i := by simp [rest, h]
theorem rest_succ_no {i : Nat} (h : c.pick i = false) : c.rest (i + 1) = c.rest i + 1 := by simp [rest, h]
theorem rest_le : ∀ i, c.rest i ≤ i
  | 0 => Nat.le_refl _
  | i + 1 => by
    have := rest_le i
    unfold rest
    split <;> omega
theorem rest_step (i : Nat) : c.rest i ≤ c.rest (i + 1) := by
  show c.rest i ≤ c.rest i + _
  omega
theorem rest_mono {i j : Nat} (h : i ≤ j) : c.rest i ≤ c.rest j := by
  induction h with
  | refl => exact Nat.le_refl _
  | step _ ih => exact Nat.le_trans ih (rest_step _)
theorem okTo_succ {i : Nat} (h : c.okTo i) (hi : c.okAt i) : c.okTo (i + 1) := fun j hj => by
  rcases Nat.lt_succ_iff_lt_or_eq.1 hj with hj | rfl
  · exact h j hj
  · exact hi
theorem okTo_no {n i : Nat} (hi : i < n) (h : ¬ c.okAt i) : ¬ c.okTo n := fun k => h (k i hi)
theorem pick_yes {i : Nat} (h0 : 0 ≤ c.ix i) (h : c.tk i (c.ix i) = false) : c.pick i = true := by simp [pick, h0, h]
theorem pick_taken {i : Nat} (h : c.tk i (c.ix i) = true) : c.pick i = false := by simp [pick, h]
theorem pick_none {i : Nat} (h : ¬ 0 ≤ c.ix i) : c.pick i = false := by simp [pick, h]
/-- A column that is not picked leaves the marks as they are (its own index is marked already, or is -1). -/
theorem tk_no {i : Nat} (h : c.pick i = false) (k : Nat) : c.tk (i + 1) k = c.tk i k := by
  rw [tk_succ]
  by_cases e : c.ix i = (k : Int)
  · have : c.tk i k = true := by
      rw [← e]
      have h0 : 0 ≤ c.ix i := by omega
      simpa [pick, h0] using h
    simp [this]
  · simp [e]
theorem tk_yes {i k : Nat} (hk : c.ix i = (k : Int)) (j : Nat) : c.tk (i + 1) j = if j = k then true else c.tk i j := by
  rw [tk_succ, hk]
  by_cases e : j = k
  · subst e; simp
  · have : ((k : Int) == (j : Int)) = false := by simp; omega
    simp [e, this]
theorem rest_le_ord : ∀ {i : Nat}, c.okTo i → c.rest i ≤ c.ord.length
  | 0, _ => Nat.zero_le _
  | i + 1, h => by
    have ih := rest_le_ord (i := i) fun j hj => h j (by omega)
    cases hp : c.pick i with
    | true => rw [rest_succ_pick hp]; exact ih
    | false =>
      rw [rest_succ_no hp]
      rcases h i (by omega) with h | ⟨h, _⟩
      · rw [hp] at h; cases h
      · omega
theorem out_self (i : Nat) : c.out (i + 1) i = c.placeOf i := by simp [out]
theorem out_other {i j : Nat} (h : j ≠ i) : c.out (i + 1) j = c.out i j := by
  unfold out
  by_cases e : j < i
  · rw [if_pos e, if_pos (by omega)]
  · rw [if_neg e, if_neg (by omega)]
theorem placeOf_pick {i : Nat} (h : c.pick i = true) : c.placeOf i = (c.ord.length : Int) + c.ix i := by simp [placeOf, h]
theorem placeOf_no {i : Nat} (h : c.pick i = false) : c.placeOf i = (c.rest i : Int) := by simp [placeOf, h]
end Cols
end Go.Proofs.Qxb6603151a
