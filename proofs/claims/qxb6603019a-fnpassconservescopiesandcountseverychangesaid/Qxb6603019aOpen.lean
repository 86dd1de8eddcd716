/-
  FROM THE READER's WORDS TO THE WALKS': a slice of ints and a map of such slices that came in.
-/
import Derived.Test.Qxb6603019aGuards
import Derived.ShutString
import Derived.ChangeOld
import Derived.Below
namespace Go.Proofs.Qxb6603019a
open Go.ChangeShapes Go.WideShapes Go.ChangeAt Go.RowKit Go.WideElems

section
variable {H : Type} {enc : TypeId × Value → H} {W : World} {sp : Nat → Bool} {held : Bool} {base : Nat}

/-- A slice of ints that was read. -/
theorem ints_view {fuel : Nat} {cs : List Value} {x : DataW H × List MemPlace} (h : DataW.trod enc Try.prog W base sp held fuel 33 cs = some x) :
    ∃ a xs cap, cs = [.slice a xs.length cap] ∧ IntsAt W a xs ∧ xs.length ≤ 9223372036854775807 ∧ ∀ n ∈ xs, (Lit.int .i64 n).wf = true := by
  rcases open_ints Try.underlying33 Try.underlying3 (by kernel_rfl) h with ⟨hcs, _⟩ | ⟨ad, l, c, zs, hcs, _, hl, hm, hz, _, hcell, hwz⟩
  · exact ⟨none, [], 0, hcs, .inl rfl, by simp, by simp⟩
  · have hlz : l ≤ zs.length := by rw [hz]; split <;> omega
    have e : (zs.take l).length = l := by rw [List.length_take]; omega
    refine ⟨some ad, zs.take l, c, by rw [e]; exact hcs, ?_, by rw [e]; unfold maxLen at hm; omega, fun n hn => hwz n (List.mem_of_mem_take hn)⟩
    by_cases h0 : zs.length = 0
    · exact .inl (List.eq_nil_of_length_eq_zero (by rw [e]; omega))
    · obtain ⟨b, off, rfl, hc⟩ := ints_at hcell (by omega)
      refine .inr ⟨b, off, rfl, World.block_lt_of_cell? W ⟨b, off + 0, none⟩ (hc 0 (by omega)), fun j hj => ?_⟩
      rw [e] at hj
      rw [hc j (by omega)]
      simp [hj]

theorem formed_slice {v : Value} (h : v.formed Try.prog 33 = true) : v.cells.toList = [v] := by
  cases v <;> simp [Value.formed, Try.underlying33, Value.cells] at h ⊢

/-- An element of the map. -/
theorem elem_view {n : Nat} {v : Value} {z : DataW H × List MemPlace} (h : elemAt enc Try.prog W base sp held n 33 v = some z) :
    ∃ a xs cap, v = .slice a xs.length cap ∧ IntsAt W a xs ∧ xs.length ≤ 9223372036854775807 := by
  unfold elemAt at h
  split at h
  · rename_i hf
    rw [formed_slice hf] at h
    obtain ⟨a, xs, cap, h1, h2, h3, _⟩ := ints_view h
    simp only [List.cons.injEq, and_true] at h1
    exact ⟨a, xs, cap, h1, h2, h3⟩
  · simp at h

theorem key_view {v : Value} {l : Lit} (h : keyOf Try.prog 3 v = some l) : ∃ k, v = .int .i64 k := by
  rw [keyOf_int Try.underlying3] at h
  unfold mapKey at h
  rw [Try.underlying3] at h
  cases v <;> simp at h
  exact ⟨_, by rw [h.1.1]⟩

theorem find_mem (x : Int) (v : Value) : ∀ es : List MapEntry, find x es = some v → ∃ e ∈ es, e.val = v
  | [], h => by simp [find] at h
  | e :: es, h => by
    by_cases hk : keyIs x e.key = true
    · simp [find, hk] at h
      exact ⟨e, .head _, h⟩
    · simp [find, hk] at h
      obtain ⟨e', he', hv⟩ := find_mem x v es h
      exact ⟨e', .tail _ he', hv⟩

/-- A map of slices of ints that was read. -/
theorem links_view {fuel : Nat} {m : Option Nat} {x : DataW H × List MemPlace} (h : DataW.trod enc Try.prog W base sp held fuel 44 [.map m] = some x) :
    ∃ A L C hs, LinksAt W m A L C hs := by
  rcases open_map Try.underlying44 h with ⟨hcs, _⟩ | ⟨b, es, clock, n, rfl, hcs, hb, _, F, _⟩
  · simp only [List.cons.injEq, and_true, Value.map.injEq] at hcs
    subst hcs
    exact ⟨fun _ => none, fun _ => [], fun _ => 0, fun _ => false, ⟨fun x => rfl, fun x _ => ⟨rfl, rfl, rfl⟩, fun x => .inl rfl, fun x => by simp⟩⟩
  · simp only [List.cons.injEq, and_true, Value.map.injEq] at hcs
    subst hcs
    have keys : IntKeys es.toList := fun e he => by
      obtain ⟨y, hy⟩ := F.reads e he
      exact key_view (rd_key hy)
    have each : ∀ x, ∃ q : Option Addr × List Int × Nat × Bool, find x es.toList = (if q.2.2.2 then some (.slice q.1 q.2.1.length q.2.2.1) else none) ∧ (q.2.2.2 = false → q.1 = none ∧ q.2.1 = [] ∧ q.2.2.1 = 0) ∧ IntsAt W q.1 q.2.1 ∧ q.2.1.length ≤ 9223372036854775807 := fun x => by
      cases hx : find x es.toList with
      | none => exact ⟨(none, [], 0, false), by simp, by simp, .inl rfl, by simp⟩
      | some v =>
        obtain ⟨e, he, hv⟩ := find_mem x v es.toList hx
        obtain ⟨y, hy⟩ := F.reads e he
        obtain ⟨z, hz, _⟩ := rd_val hy
        rw [hv] at hz
        obtain ⟨a, xs, cap, h1, h2, h3⟩ := elem_view hz
        exact ⟨(a, xs, cap, true), by simp [h1], by simp, h2, h3⟩
    exact ⟨fun x => (Classical.choose (each x)).1, fun x => (Classical.choose (each x)).2.1, fun x => (Classical.choose (each x)).2.2.1, fun x => (Classical.choose (each x)).2.2.2,
      ⟨⟨(Array.getElem?_eq_some_iff.1 hb).1, es, clock, hb, keys, fun x => (Classical.choose_spec (each x)).1.symm⟩, fun x => (Classical.choose_spec (each x)).2.1, fun x => (Classical.choose_spec (each x)).2.2.1, fun x => (Classical.choose_spec (each x)).2.2.2⟩⟩
end
end Go.Proofs.Qxb6603019a
