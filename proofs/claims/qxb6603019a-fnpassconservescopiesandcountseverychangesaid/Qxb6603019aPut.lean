/-
  A STORE INTO A MAP KEYED BY int: what it holds behind it.
-/
import Derived.Test.Qxb6603019aGuards
namespace Go.Proofs.Qxb6603019a
open Go.RowKit

theorem find_modify (x : Int) (v : Value) : ∀ (es : List MapEntry) (i : Nat), IntKeys es → ∀ j e, Instr.findNow (.int .i64) (.int .i64 x) es i = some (some (i + j, e)) →
    ∀ y, find y (es.modify j fun e => { e with key := .int .i64 x, val := v }) = if y = x then some v else find y es
  | [], _, _, j, e, h, _ => by simp [Instr.findNow] at h
  | e0 :: es, i, hk, j, e, h, y => by
    obtain ⟨k, hk0⟩ := hk e0 (.head _)
    by_cases hx : x = k
    · subst hx
      have h0 : j = 0 := by
        simp [Instr.findNow, Instr.sameNow, hk0] at h
        omega
      subst h0
      simp only [List.modify_zero_cons, find, keyIs_int]
      by_cases hy : y = x
      · simp [hy]
      · simp [hy, hk0, keyIs_int]
    · have hb : (x == k) = false := by simpa using hx
      have h' : Instr.findNow (.int .i64) (.int .i64 x) es (i + 1) = some (some (i + j, e)) := by
        simpa [Instr.findNow, Instr.sameNow, hk0, hb] using h
      have hj : 0 < j := by
        rcases findNow_find x es (i + 1) (fun e' he' => hk e' (.tail _ he')) with ⟨a, _⟩ | ⟨j2, e2, a, _⟩
        · rw [a] at h'; simp at h'
        · rw [a] at h'; simp at h'; omega
      obtain ⟨j', rfl⟩ : ∃ j', j = j' + 1 := ⟨j - 1, by omega⟩
      rw [show i + (j' + 1) = i + 1 + j' by omega] at h'
      have ih := find_modify x v es (i + 1) (fun e' he' => hk e' (.tail _ he')) j' e h' y
      simp only [List.modify_succ_cons, find, hk0, keyIs_int]
      rw [ih]
      by_cases hy : y = k
      · subst hy
        have : ¬ y = x := fun c => hx c.symm
        simp [this]
      · simp [hy]

/-- What a store leaves of the rest of the world. -/
structure Turned (w w' : World) (b : Nat) : Prop where
  os : w'.os = w.os
  tape : w'.tape = w.tape
  output : w'.output = w.output
  size : w'.heap.size = w.heap.size
  block : ∀ k, k ≠ b → w'.heap[k]? = w.heap[k]?

theorem MapAt.put {w : World} {b : Nat} {f : Int → Option Value} (h : MapAt w (some b) f) (x : Int) (v : Value) :
    ∃ w', (Instr.mapUpdate 44 (.map (some b)) (.int .i64 x) v).run Try.prog w = .ok () w' ∧ MapAt w' (some b) (fun y => if y = x then some v else f y) ∧ Turned w w' b := by
  obtain ⟨hlt, es, clock, hb, hk, hf⟩ := h
  have ck : ∀ b n, (Instr.checkKey b (n + 1) 3 (.int .i64 x)).run Try.prog w = .ok () w := fun b n => MapKept.run_checkKey Try.underlying3 (by simp [MapKept.IsKey]) b n
  rcases findNow_find x es.toList 0 hk with ⟨e1, e2⟩ | ⟨j, e, e1, e2, e3, e4⟩
  · have hf' := MapKept.run_findKey (P := Try.prog) (w := w) Try.underlying3 e1
    refine ⟨{ w with heap := w.heap.setIfInBounds b (.map (es.push { key := .int .i64 x, val := v, born := clock }) (clock + 1)) }, ?_, ⟨by simpa using hlt, _, _, (MapKept.heap_set hb).1, ?_, ?_⟩, ⟨rfl, rfl, rfl, by simp, fun k hk' => (MapKept.heap_set hb).2 k hk'⟩⟩
    · simp [Instr.mapUpdate, run_underlying Try.underlying44, MapKept.run_getObj_map hb, ck _ 9999, hf', MapKept.run_setObj_map _ hb, Result.andThen]
    · intro e he
      rw [Array.toList_push, List.mem_append, List.mem_singleton] at he
      rcases he with he | rfl
      · exact hk e he
      · exact ⟨x, rfl⟩
    · intro y
      show (if y = x then some v else f y) = _
      rw [Array.toList_push, find_append, hf y]
      by_cases hy : y = x
      · subst hy
        simp [find_none y _ e2, keyIs_int]
      · simp [hy, keyIs_int]
  · have hf' := MapKept.run_findKey (P := Try.prog) (w := w) Try.underlying3 e1
    have hj : es[j]? = some e := by simpa using e2
    have ks : (Instr.keyThatStays (.int .i64 x) (.int .i64 x)).run Try.prog w = .ok (.int .i64 x) w := MapKept.run_keyThatStays (d := .int .i64) (by simp [MapKept.IsKey])
    refine ⟨{ w with heap := w.heap.setIfInBounds b (.map (es.modify j fun e => { e with key := .int .i64 x, val := v }) clock) }, ?_, ⟨by simpa using hlt, _, _, (MapKept.heap_set hb).1, ?_, ?_⟩, ⟨rfl, rfl, rfl, by simp, fun k hk' => (MapKept.heap_set hb).2 k hk'⟩⟩
    · simp [Instr.mapUpdate, run_underlying Try.underlying44, MapKept.run_getObj_map hb, ck _ 9999, hf', hj, e3, ks, MapKept.run_setObj_map _ hb, Result.andThen]
    · intro e' he'
      rw [Array.toList_modify] at he'
      obtain ⟨i, hi⟩ := List.getElem?_of_mem he'
      rw [List.getElem?_modify] at hi
      by_cases c : j = i
      · subst c
        simp [hj] at hi
        subst hi
        exact ⟨x, rfl⟩
      · simp [c] at hi
        exact hk e' (by rw [Array.mem_toList_iff]; exact Array.mem_of_getElem? hi)
    · intro y
      show (if y = x then some v else f y) = _
      rw [Array.toList_modify, find_modify x v es.toList 0 hk j e.val e1 y, hf y]

theorem run_makeMap_hint (n : Int) (w : World) : (Instr.makeMap 44 (some (.int .i64 n))).run Try.prog w = .ok (.map (some w.heap.size)) (w.alloc (.map #[] 0)) := by
  simp [Instr.makeMap, run_underlying Try.underlying44, asInt, asIntOf, Result.andThen]
end Go.Proofs.Qxb6603019a
