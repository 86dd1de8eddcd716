/-
  What the walk of 'FnPlacesAcceptsHeaderThenOptional' carries: the list of names so far.
-/
import Derived.Test.Qxb6603151aZZ
import Derived.Test.Qxb6603151aPlainA
namespace Go.Proofs.Qxb6603151a
open Go.RowKit

/-- None of the first p of 'ord' is named in 'any'. -/
def NotIn (any ord : List Str) (p : Nat) : Prop := ∀ q, q < p → idx any (ord.getD q ByteArray.empty) < 0
theorem NotIn.step {any ord : List Str} {p : Nat} (h : NotIn any ord p) (hp : idx any (ord.getD p ByteArray.empty) < 0) : NotIn any ord (p + 1) := fun q hq => by
  rcases Nat.lt_succ_iff_lt_or_eq.1 hq with hq | rfl
  · exact h q hq
  · exact hp

theorem run_make_cap (n : Nat) (hn : n ≤ 65536) (w : World) : (Instr.makeSlice 22 (.int .i64 0) (.int .i64 (n : Int))).run Try.prog w = .ok (.slice (some ⟨w.heap.size, 0, none⟩) 0 n) (w.alloc (.cells (madeCells #[.string ByteArray.empty] n) 9)) := by
  obtain ⟨i0, hi, hz0, hz1, hz2⟩ := info_parts info9
  have := run_make (P := Try.prog) w 22 9 i0 (.string ByteArray.empty) Try.underlying22 hi hz0 .i64 .i64 0 (n : Int) (by omega) (by omega) (by rw [hz2]; omega) (by omega)
  rw [hz1] at this
  simpa [Value.cells] using this

/-- The list of names so far, in the row that the law has made behind w3. -/
structure NamesAt (w3 wr : World) (cap : Nat) (nl : List Str) : Prop where
  owns : wr.ownsRow w3.heap.size 9 1 (.slice (some ⟨w3.heap.size, 0, none⟩) nl.length cap) nl.length (nl.map Value.string)
  below : Below w3.heap.size w3 wr
  size : w3.heap.size < wr.heap.size

theorem NamesAt.start (w3 : World) (cap : Nat) (hc : cap ≤ 65536) : NamesAt w3 (w3.alloc (.cells (madeCells #[.string ByteArray.empty] cap) 9)) cap [] := by
  refine ⟨⟨by simp, .inr ⟨w3.heap.size, cap, _, rfl, Nat.le_refl _, heap_alloc_new w3 _, Nat.zero_le _, by unfold maxLen; omega, by simp [madeCells], by simp⟩⟩, (Below.refl _ _).alloc (Nat.le_refl _) _, by simp⟩

theorem NamesAt.append {w3 wr w5 : World} {cap : Nat} {nl : List Str} {s : Str} {o : Obj} (h : NamesAt w3 wr cap nl)
    (ho : w5.ownsRow w3.heap.size 9 1 (.slice (some ⟨w3.heap.size, 0, none⟩) (nl.length + 1) cap) (nl.length + 1) (nl.map Value.string ++ [.string s])) (hg : (wr.alloc o).grownBy w5 (some w3.heap.size)) : NamesAt w3 w5 cap (nl ++ [s]) := by
  refine ⟨by rw [List.length_append, List.map_append]; exact ho, ?_, ?_⟩
  · exact (h.below.alloc (by have := h.size; omega) o).grown hg (by have := h.size; simp; omega) (fun k hk => by cases hk; exact Nat.le_refl _)
  · have := hg.size
    have := h.size
    simp at *
    omega

theorem NamesAt.strs {w3 wr : World} {cap : Nat} {nl : List Str} (h : NamesAt w3 wr cap nl) : StrsAt wr (some ⟨w3.heap.size, 0, none⟩) nl := strs_of_owns h.owns

def TruePost (w : World) (e : Ending) (w' : World) : Prop := e = .returned (.bool true) ∧ Below w.heap.size w w'

end Go.Proofs.Qxb6603151a
