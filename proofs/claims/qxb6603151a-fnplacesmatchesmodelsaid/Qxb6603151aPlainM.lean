/-
  THE MODEL's OWN WORD OF 'pick', AND A ROW IN MEMORY: no walk here.
-/
import Derived.Test.Qxb6603151aZZ
namespace Go.Proofs.Qxb6603151a
open Go.RowKit

theorem idxFrom_same {x y : Str} (h : x.toList = y.toList) : ∀ (ss : List Str) (i : Nat), idxFrom x ss i = idxFrom y ss i
  | [], _ => rfl
  | s :: r, i => by rw [idxFrom, idxFrom, h, idxFrom_same h r (i + 1)]
theorem idx_same {x y : Str} (h : x.toList = y.toList) (ss : List Str) : idx ss x = idx ss y := idxFrom_same h ss 0
theorem idx_hit {ss : List Str} {x : Str} {k : Nat} (h : idx ss x = (k : Int)) : (ss.getD k ByteArray.empty).toList = x.toList := by
  rcases idx_spec ss x with ⟨h1, _⟩ | ⟨k', _, h2, h3, _⟩
  · omega
  · have : k' = k := by omega
    rw [← this]; exact h3

theorem Cols.pick_model {c : Cols} {i : Nat} (h0 : 0 ≤ c.ix i) : c.pick i = true ↔ NoneTo c.names (c.nm i) i := by
  have hp : c.pick i = !c.tk i (c.ix i) := by simp [Cols.pick, h0]
  rw [hp]
  obtain ⟨k, hk⟩ := Int.eq_ofNat_of_zero_le h0
  constructor
  · intro h j hj he
    have hix : c.ix j = c.ix i := idx_same he c.any
    have : c.tk i (c.ix i) = true := by
      rw [Cols.tk, List.any_eq_true]
      exact ⟨j, List.mem_range.2 hj, by simp [hix]⟩
    rw [this] at h
    simp at h
  · intro h
    have : c.tk i (c.ix i) = false := by
      rw [Cols.tk, List.any_eq_false]
      intro j hj he
      have he' : c.ix j = c.ix i := by simpa using he
      have a1 := idx_hit (ss := c.any) (x := c.nm i) hk
      have a2 := idx_hit (ss := c.any) (x := c.nm j) (he'.trans hk)
      exact h j (List.mem_range.1 hj) (a2.symm.trans a1)
    rw [this]; rfl

/-- A row of n cells that has been made behind w0. -/
structure RowF (w0 wr : World) (n : Nat) (f : Nat → Value) : Prop where
  cell : ∀ j, j < n → wr.cell? ⟨w0.heap.size, j, none⟩ = some (f j)
  frozen : ∀ j, wr.frozen? ⟨w0.heap.size, j, none⟩ = false
  below : Below w0.heap.size w0 wr
  size : w0.heap.size < wr.heap.size

theorem RowF.start (w0 : World) (n : Nat) (z : Value) (t : TypeId) {f : Nat → Value} (hf : ∀ j, j < n → f j = z) : RowF w0 (w0.alloc (.cells (madeCells #[z] n) t)) n f := by
  refine ⟨fun j hj => ?_, fun j => ?_, (Below.refl _ _).alloc (Nat.le_refl _) _, by simp⟩
  · rw [World.cell?_alloc_at _ _ _ _ rfl, ← Array.getElem?_toList, toList_madeCells_one, List.getElem?_replicate, if_pos hj, hf j hj]
  · rw [World.frozen?_alloc_at _ _ _ _ rfl]

theorem RowF.set {w0 wr : World} {n i : Nat} {f g : Nat → Value} {v : Value} (h : RowF w0 wr n f) (hi : i < n) (hv : g i = v) (hg : ∀ j, j ≠ i → g j = f j) : RowF w0 (wr.setCell ⟨w0.heap.size, i, none⟩ v) n g := by
  refine ⟨fun j hj => ?_, fun j => ?_, h.below.setCell (Nat.le_refl _) _, by simpa using h.size⟩
  · by_cases e : i = j
    · subst e
      rw [World.cell?_setCell_same _ _ _ (h.cell i hi), hv]
    · rw [World.cell?_setCell_other _ _ _ _ (fun c => e (by injection c)), h.cell j hj, hg j (fun c => e c.symm)]
  · rw [World.frozen?_setCell]; exact h.frozen j

theorem RowF.drewN {w0 wr : World} {n : Nat} {f : Nat → Value} (h : RowF w0 wr n f) (d : Nat) : RowF w0 (wr.drewN d) n f :=
  ⟨fun j hj => by simpa using h.cell j hj, fun j => by simpa using h.frozen j, below_drewN h.below d, by simpa using h.size⟩

theorem RowF.past {w0 wr w2 : World} {n : Nat} {f : Nat → Value} (h : RowF w0 wr n f) (k : Below wr.heap.size wr w2) {j : Nat} (hj : j < n) : w2.cell? ⟨w0.heap.size, j, none⟩ = some (f j) := by
  rw [k.cell (p := ⟨w0.heap.size, j, none⟩) h.size]; exact h.cell j hj

/-- The marks so far: which columns stand anywhere. -/
def pkv (c : Cols) (i j : Nat) : Value := .bool (decide (j < i) && c.pick j)
def outv (c : Cols) (i j : Nat) : Value := .int .i64 (c.out i j)
theorem pkv_self (c : Cols) (i : Nat) : pkv c (i + 1) i = .bool (c.pick i) := by simp [pkv]
theorem pkv_other (c : Cols) {i j : Nat} (h : j ≠ i) : pkv c (i + 1) j = pkv c i j := by
  unfold pkv
  have : decide (j < i + 1) = decide (j < i) := by
    by_cases e : j < i
    · rw [decide_eq_true e, decide_eq_true (by omega)]
    · rw [decide_eq_false e, decide_eq_false (by omega)]
  rw [this]
theorem pkv_end (c : Cols) {n j : Nat} (h : j < n) : pkv c n j = .bool (c.pick j) := by simp [pkv, h]
theorem outv_self (c : Cols) (i : Nat) : outv c (i + 1) i = .int .i64 (c.placeOf i) := by rw [outv, Cols.out_self]
theorem outv_other (c : Cols) {i j : Nat} (h : j ≠ i) : outv c (i + 1) j = outv c i j := by rw [outv, outv, Cols.out_other h]
theorem outv_end (c : Cols) {n j : Nat} (h : j < n) : outv c n j = .int .i64 (c.placeOf j) := by rw [outv, Cols.out, if_pos h]
end Go.Proofs.Qxb6603151a
