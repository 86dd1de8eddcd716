/-
  FROM THE READER's WORDS TO THE WALKS': a slice of strings that came in.
-/
import Derived.Test.Qxb6603151aBase
import Derived.SliceStrings
import Derived.ShutString
import Derived.ChangeOld
import Derived.Below
namespace Go.Proofs.Qxb6603151a
open Go.ChangeShapes Go.WideShapes Go.ChangeAt Go.RowKit

theorem strs_view {H : Type} {enc : TypeId × Value → H} {W : World} {sp : Nat → Bool} {held : Bool} {base : Nat} {fuel : Nat} {cs : List Value} {x : DataW H × List MemPlace} (h : DataW.trod enc Try.prog W base sp held fuel 22 cs = some x) :
    ∃ a ss cap, cs = [.slice a ss.length cap] ∧ StrsAt W a ss ∧ ss.length ≤ 9223372036854775807 := by
  rcases open_strings Try.underlying22 Try.underlying9 (by kernel_rfl) h with ⟨hcs, _⟩ | ⟨ad, l, c, zs, hcs, _, hl, hm, hz, _, hcell, _⟩
  · exact ⟨none, [], 0, hcs, .inl rfl, by simp⟩
  · have hlz : l ≤ zs.length := by rw [hz]; split <;> omega
    have e : (zs.take l).length = l := by rw [List.length_take]; omega
    refine ⟨some ad, zs.take l, c, by rw [e]; exact hcs, ?_, by rw [e]; unfold maxLen at hm; omega⟩
    by_cases h0 : zs.length = 0
    · exact .inl (List.eq_nil_of_length_eq_zero (by rw [e]; omega))
    · obtain ⟨b, off, spot⟩ := ad
      have hspot : spot = none := by simpa [Addr.add] using World.cell?_spot (hcell 0 (by omega))
      subst hspot
      have hc : ∀ j, j < zs.length → W.cell? ⟨b, off + j, none⟩ = some (.string (zs.getD j ByteArray.empty)) := fun j hj => by rw [← add_plain]; exact hcell j hj
      refine .inr ⟨b, off, rfl, World.block_lt_of_cell? W ⟨b, off + 0, none⟩ (hc 0 (by omega)), fun j hj => ?_⟩
      rw [e] at hj
      rw [hc j (by omega)]
      simp [hj]
end Go.Proofs.Qxb6603151a
