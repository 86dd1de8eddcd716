/-
  THE VIEWS THAT ALL WALKS SHARE: a slice of ints in memory, read through an address that may be anything where the slice is empty; a map from int to slices of ints.
-/
import Derived.Test.Qxb6603019aRows
import Derived.WalkKit
import Derived.ProofKit
import Derived.OpenShut
import Derived.Deep.OwnRows
import Derived.Deep.Draws
import Derived.WalkSpells
namespace Go.Proofs.Qxb6603019a
open Go.RowKit

theorem info3 : (Try.prog.info? 3).map (fun i => (i.zero, i.size, i.bytes)) = some (some (.int .i64 0), 1, 8) := by kernel_rfl
theorem info4 : (Try.prog.info? 4).map (fun i => (i.zero, i.size, i.bytes)) = some (some (.bool false), 1, 1) := by kernel_rfl
theorem zero33 (w : World) : (zeroValue 33).run Try.prog w = .ok (.slice none 0 0) w := by kernel_rfl

/-! ### slices of ints -/
/-- The numbers xs lie in w from the address a on (an empty slice's address is whatever). -/
def IntsAt (w : World) (a : Option Addr) (xs : List Int) : Prop :=
  xs = [] ∨ ∃ b off, a = some ⟨b, off, none⟩ ∧ b < w.heap.size ∧ ∀ j, j < xs.length → w.cell? ⟨b, off + j, none⟩ = some (.int .i64 (xs.getD j 0))

theorem IntsAt.kept {w w' : World} {a : Option Addr} {xs : List Int} (h : IntsAt w a xs) (hs : w.heap.size ≤ w'.heap.size)
    (hk : ∀ b off, a = some ⟨b, off, none⟩ → b < w.heap.size → w'.heap[b]? = w.heap[b]?) : IntsAt w' a xs := by
  rcases h with h | ⟨b, off, rfl, hb, hc⟩
  · exact .inl h
  · refine .inr ⟨b, off, rfl, by omega, fun j hj => ?_⟩
    rw [World.cell?_of_block (w := w) (a := ⟨b, off + j, none⟩) (hk b off rfl hb)]
    exact hc j hj

theorem IntsAt.below {w w' : World} {a : Option Addr} {xs : List Int} (h : IntsAt w a xs) (k : Below w.heap.size w w') : IntsAt w' a xs :=
  h.kept k.size fun b _ _ hb => k.block b hb

/-! ### maps keyed by int -/
def keyIs (x : Int) : Value → Bool
  | .int .i64 k => x == k
  | _ => false

/-- What a map's entries hold at x. -/
def find (x : Int) : List MapEntry → Option Value
  | [] => none
  | e :: es => if keyIs x e.key then some e.val else find x es

def IntKeys (es : List MapEntry) : Prop := ∀ e ∈ es, ∃ k, e.key = .int .i64 k

theorem keyIs_int (x k : Int) : keyIs x (.int .i64 k) = (x == k) := rfl

theorem findNow_find (x : Int) : ∀ (es : List MapEntry) (i : Nat), IntKeys es →
    (Instr.findNow (.int .i64) (.int .i64 x) es i = some none ∧ ∀ e ∈ es, keyIs x e.key = false) ∨
    ∃ j e, Instr.findNow (.int .i64) (.int .i64 x) es i = some (some (i + j, e.val)) ∧ es[j]? = some e ∧ e.key = .int .i64 x ∧ find x es = some e.val
  | [], _, _ => .inl ⟨rfl, by simp⟩
  | e :: es, i, h => by
    obtain ⟨k, hk⟩ := h e (.head _)
    by_cases hx : x = k
    · subst hx
      refine .inr ⟨0, e, ?_, rfl, hk, ?_⟩
      · simp [Instr.findNow, Instr.sameNow, hk]
      · simp [find, hk, keyIs_int]
    · have hb : (x == k) = false := by simpa using hx
      have e1 : Instr.findNow (.int .i64) (.int .i64 x) (e :: es) i = Instr.findNow (.int .i64) (.int .i64 x) es (i + 1) := by
        simp [Instr.findNow, Instr.sameNow, hk, hb]
      have e2 : find x (e :: es) = find x es := by
        simp [find, hk, keyIs_int, hb]
      rw [e1, e2]
      rcases findNow_find x es (i + 1) (fun e' he' => h e' (.tail _ he')) with ⟨a, b⟩ | ⟨j, e', a, b, c, d⟩
      · refine .inl ⟨a, fun e' he' => ?_⟩
        rcases List.mem_cons.1 he' with rfl | he'
        · rw [hk, keyIs_int, hb]
        · exact b e' he'
      · exact .inr ⟨j + 1, e', by rw [a, show i + 1 + j = i + (j + 1) by omega], by simpa using b, c, d⟩

theorem find_none (x : Int) : ∀ es : List MapEntry, (∀ e ∈ es, keyIs x e.key = false) → find x es = none
  | [], _ => rfl
  | e :: es, h => by simp [find, h e (.head _), find_none x es fun e' he' => h e' (.tail _ he')]

theorem find_append (x : Int) (e : MapEntry) : ∀ es : List MapEntry, find x (es ++ [e]) = (find x es).or (if keyIs x e.key then some e.val else none)
  | [] => by simp [find]
  | e' :: es => by
    by_cases h : keyIs x e'.key = true
    · simp [find, h]
    · simp [find, h, find_append x e es]

/-- The map value '.map m' holds f. -/
def MapAt (w : World) (m : Option Nat) (f : Int → Option Value) : Prop :=
  match m with
  | none => ∀ x, f x = none
  | some b => b < w.heap.size ∧ ∃ es clock, w.heap[b]? = some (.map es clock) ∧ IntKeys es.toList ∧ ∀ x, f x = find x es.toList

theorem MapAt.kept {w w' : World} {m : Option Nat} {f : Int → Option Value} (h : MapAt w m f) (hs : w.heap.size ≤ w'.heap.size) (hk : ∀ b, m = some b → b < w.heap.size → w'.heap[b]? = w.heap[b]?) : MapAt w' m f := by
  cases m with
  | none => exact h
  | some b =>
    obtain ⟨hb, es, clock, h1, h2, h3⟩ := h
    exact ⟨by omega, es, clock, (hk b rfl hb).trans h1, h2, h3⟩

theorem MapAt.below {w w' : World} {m : Option Nat} {f : Int → Option Value} (h : MapAt w m f) (k : Below w.heap.size w w') : MapAt w' m f :=
  h.kept k.size fun b _ hb => k.block b hb

theorem MapAt.look {w : World} {m : Option Nat} {f : Int → Option Value} (h : MapAt w m f) (x : Int) (c : Bool) :
    (Instr.lookup 44 (.map m) (.int .i64 x) c).run Try.prog w = .ok (if c then .tuple #[(f x).getD (.slice none 0 0), .bool (f x).isSome] else (f x).getD (.slice none 0 0)) w := by
  have ck : ∀ b n, (Instr.checkKey b (n + 1) 3 (.int .i64 x)).run Try.prog w = .ok () w := fun b n => MapKept.run_checkKey Try.underlying3 (by simp [MapKept.IsKey]) b n
  cases m with
  | none =>
    have hf : (Instr.findKey 3 (.int .i64 x) []).run Try.prog w = .ok none w := MapKept.run_findKey Try.underlying3 (by rfl)
    simp [Instr.lookup, run_underlying Try.underlying44, Result.andThen, ck _ 9999, hf, h x]
  | some b =>
    obtain ⟨_, es, clock, hb, hk, hf⟩ := h
    rw [hf x]
    rcases findNow_find x es.toList 0 hk with ⟨e1, e2⟩ | ⟨j, e, e1, _, _, e2⟩
    · have hf := MapKept.run_findKey (P := Try.prog) (w := w) Try.underlying3 e1
      simp [Instr.lookup, run_underlying Try.underlying44, Result.andThen, MapKept.run_getObj_map hb, ck _ 9999, hf, find_none x _ e2]
    · have hf := MapKept.run_findKey (P := Try.prog) (w := w) Try.underlying3 e1
      simp [Instr.lookup, run_underlying Try.underlying44, Result.andThen, MapKept.run_getObj_map hb, ck _ 9999, hf, e2]

theorem MapAt.len {w : World} {m : Option Nat} {f : Int → Option Value} (h : MapAt w m f) : ∃ n : Nat, ∀ ty, (Builtin.len_ #[44] ty #[.map m]).run Try.prog w = .ok (.int .i64 n) w := by
  cases m with
  | none => exact ⟨0, fun ty => by simp [Builtin.len_, run_underlying Try.underlying44, goInt, Result.andThen]⟩
  | some b =>
    obtain ⟨_, es, clock, hb, hk, hf⟩ := h
    exact ⟨es.size, fun ty => by simp [Builtin.len_, run_underlying Try.underlying44, goInt, Result.andThen, MapKept.run_getObj_map hb]⟩
end Go.Proofs.Qxb6603019a
