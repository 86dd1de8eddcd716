/-
  THE VIEWS THAT ALL WALKS SHARE: a slice of strings in memory, read through an address that may be anything where the slice is empty.
-/
import Derived.Test.Qxb6603151aRows
import Derived.WalkKit
import Derived.ProofKit
import Derived.OpenShut
import Derived.Deep.OwnRows
import Derived.Deep.Draws
import Derived.WalkSpells
import Derived.WalkSmall
import Derived.Deep.QuietTactic
import Derived.BigQuiet
namespace Go.Proofs.Qxb6603151a
open Go.RowKit

abbrev Str := ByteArray

theorem info3 : (Try.prog.info? 3).map (fun i => (i.zero, i.size, i.bytes)) = some (some (.int .i64 0), 1, 8) := by kernel_rfl
theorem info4 : (Try.prog.info? 4).map (fun i => (i.zero, i.size, i.bytes)) = some (some (.bool false), 1, 1) := by kernel_rfl
theorem info9 : (Try.prog.info? 9).map (fun i => (i.zero, i.size, i.bytes)) = some (some (.string ByteArray.empty), 1, 16) := by kernel_rfl

/-- The strings ss lie in w from the address a on (an empty slice's address is whatever). -/
def StrsAt (w : World) (a : Option Addr) (ss : List Str) : Prop :=
  ss = [] ∨ ∃ b off, a = some ⟨b, off, none⟩ ∧ b < w.heap.size ∧ ∀ j, j < ss.length → w.cell? ⟨b, off + j, none⟩ = some (.string (ss.getD j ByteArray.empty))

theorem StrsAt.kept {w w' : World} {a : Option Addr} {ss : List Str} (h : StrsAt w a ss) (hs : w.heap.size ≤ w'.heap.size)
    (hk : ∀ b off, a = some ⟨b, off, none⟩ → b < w.heap.size → w'.heap[b]? = w.heap[b]?) : StrsAt w' a ss := by
  rcases h with h | ⟨b, off, rfl, hb, hc⟩
  · exact .inl h
  · refine .inr ⟨b, off, rfl, by omega, fun j hj => ?_⟩
    rw [World.cell?_of_block (w := w) (a := ⟨b, off + j, none⟩) (hk b off rfl hb)]
    exact hc j hj

theorem StrsAt.below {w w' : World} {a : Option Addr} {ss : List Str} (h : StrsAt w a ss) (k : Below w.heap.size w w') : StrsAt w' a ss :=
  h.kept k.size fun b _ _ hb => k.block b hb

/-- The first index of x from i on, or -1. -/
def idxFrom (x : Str) : List Str → Nat → Int
  | [], _ => -1
  | s :: r, i => if s.toList = x.toList then i else idxFrom x r (i + 1)
def idx (ss : List Str) (x : Str) : Int := idxFrom x ss 0

theorem idxFrom_none (x : Str) : ∀ (ss : List Str) (i : Nat), (∀ j, j < ss.length → (ss.getD j ByteArray.empty).toList ≠ x.toList) → idxFrom x ss i = -1
  | [], _, _ => rfl
  | s :: r, i, h => by
    have h0 := h 0 (by simp)
    simp at h0
    rw [idxFrom, if_neg h0]
    exact idxFrom_none x r (i + 1) fun j hj => by simpa using h (j + 1) (by simpa using hj)
theorem idxFrom_some (x : Str) : ∀ (ss : List Str) (i k : Nat), k < ss.length → (ss.getD k ByteArray.empty).toList = x.toList → (∀ j, j < k → (ss.getD j ByteArray.empty).toList ≠ x.toList) → idxFrom x ss i = i + k
  | [], _, _, hk, _, _ => by simp at hk
  | s :: r, i, 0, _, h, _ => by
    simp at h
    rw [idxFrom, if_pos h]; simp
  | s :: r, i, k + 1, hk, h, hn => by
    have h0 := hn 0 (by omega)
    simp at h0
    rw [idxFrom, if_neg h0, idxFrom_some x r (i + 1) k (by simpa using hk) (by simpa using h) fun j hj => by simpa using hn (j + 1) (by omega)]
    omega
/-- Either no element is x, or the index is that of the first that is. -/
theorem idx_spec (ss : List Str) (x : Str) : (idx ss x = -1 ∧ ∀ j, j < ss.length → (ss.getD j ByteArray.empty).toList ≠ x.toList) ∨
    ∃ k, k < ss.length ∧ idx ss x = (k : Int) ∧ (ss.getD k ByteArray.empty).toList = x.toList ∧ ∀ j, j < k → (ss.getD j ByteArray.empty).toList ≠ x.toList := by
  by_cases h : ∃ k, k < ss.length ∧ (ss.getD k ByteArray.empty).toList = x.toList
  · have hm : ∀ n, (∃ k, k < n ∧ k < ss.length ∧ (ss.getD k ByteArray.empty).toList = x.toList) → ∃ k, k < ss.length ∧ (ss.getD k ByteArray.empty).toList = x.toList ∧ ∀ j, j < k → (ss.getD j ByteArray.empty).toList ≠ x.toList := by
      intro n
      induction n with
      | zero => rintro ⟨k, hk, _⟩; omega
      | succ n ih =>
        rintro ⟨k, hk, hl, he⟩
        by_cases h' : ∃ k, k < n ∧ k < ss.length ∧ (ss.getD k ByteArray.empty).toList = x.toList
        · exact ih h'
        · refine ⟨k, hl, he, fun j hj c => h' ⟨j, by omega, by omega, c⟩⟩
    obtain ⟨k0, hk0, he0⟩ := h
    obtain ⟨k, hk, he, hn⟩ := hm (k0 + 1) ⟨k0, by omega, hk0, he0⟩
    exact .inr ⟨k, hk, by unfold idx; rw [idxFrom_some x ss 0 k hk he hn]; simp, he, hn⟩
  · exact .inl ⟨idxFrom_none x ss 0 fun j hj c => h ⟨j, hj, c⟩, fun j hj c => h ⟨j, hj, c⟩⟩
theorem idx_bound (ss : List Str) (x : Str) : -1 ≤ idx ss x ∧ idx ss x < ss.length := by
  rcases idx_spec ss x with ⟨h, _⟩ | ⟨k, h1, h2, _⟩ <;> omega

def NoneTo (ss : List Str) (x : Str) (k : Nat) : Prop := ∀ j, j < k → (ss.getD j ByteArray.empty).toList ≠ x.toList
theorem NoneTo.step {ss : List Str} {x : Str} {k : Nat} (h : NoneTo ss x k) (hk : (ss.getD k ByteArray.empty).toList ≠ x.toList) : NoneTo ss x (k + 1) := fun j hj => by
  rcases Nat.lt_succ_iff_lt_or_eq.1 hj with hj | rfl
  · exact h j hj
  · exact hk
theorem NoneTo.hit {ss : List Str} {x : Str} {k : Nat} (h : NoneTo ss x k) (hl : k < ss.length) (hk : (ss.getD k ByteArray.empty).toList = x.toList) : idx ss x = (k : Int) := by
  unfold idx; rw [idxFrom_some x ss 0 k hl hk h]; simp
theorem NoneTo.miss {ss : List Str} {x : Str} (h : NoneTo ss x ss.length) : idx ss x = -1 := idxFrom_none x ss 0 h

theorem ret_int {k : IntKind} {a b : Int} (h : a = b) : Ending.returned (.int k a) = .returned (.int k b) := by rw [h]

set_option maxHeartbeats 400000 in
/-- zzIndexOf -/
theorem indexOf_any (a : Option Addr) (cap : Nat) (ss : List Str) (x : Str) (w : World) (hx : StrsAt w a ss) (hlen : ss.length ≤ 65536) :
    Calls Try.prog 16 #[.slice a ss.length cap, .string x] w fun e w' => e = .returned (.int .i64 (idx ss x)) ∧ w = w' := by
  go_enter Try.func16, Try.ntmps16
  go_wp2
  go_loop [5] (fun i => ∃ k : Nat, k ≤ ss.length ∧ i = .int .i64 (k : Int) ∧ NoneTo ss x k) (fun i => ss.length - (intOf i).toNat)
  case atStart => exact ⟨0, Nat.zero_le _, rfl, fun j hj => absurd hj (Nat.not_lt_zero _)⟩
  case round =>
    obtain ⟨k, hk, rfl, hno⟩ := hrel
    have HN : Hid (NoneTo ss x k) := hno
    clear hno
    by_cases hlt : k < ss.length
    · rcases hx with hx | ⟨b, off, rfl, hb, hc⟩
      · subst hx; simp at hlt
      · have h1 := hc k hlt
        clear hc
        have hst : Hid ((ss.getD k ByteArray.empty).toList ≠ x.toList → NoneTo ss x (k + 1)) := fun h => HN.out.step h
        have hhit : Hid ((ss.getD k ByteArray.empty).toList = x.toList → idx ss x = (k : Int)) := fun h => HN.out.hit hlt h
        generalize ss.getD k ByteArray.empty = s at *
        by_cases e : s.toList = x.toList
        · have e' : (ByteArray.toList s == ByteArray.toList x) = true := by simp [e]
          have hh : Hid _ := hhit.out e
          clear e
          go_wp2
          go_ret
          exact ⟨ret_int hh.out.symm, rfl⟩
        · have e' : (ByteArray.toList s == ByteArray.toList x) = false := by simp [e]
          have hh : Hid _ := hst.out e
          clear e
          go_wp2
          go_round
          case rel => exact ⟨k + 1, by omega, by go_num, hh.out⟩
          case measure => simp [intOf]; omega
    · obtain rfl : k = ss.length := by omega
      go_wp2
      go_ret
      exact ⟨ret_int HN.out.miss.symm, rfl⟩

set_option maxHeartbeats 400000 in
/-- slices.Index -/
theorem index_any (a : Option Addr) (cap : Nat) (ss : List Str) (x : Str) (w : World) (hx : StrsAt w a ss) (hlen : ss.length ≤ 65536) :
    Calls Try.prog 27 #[.slice a ss.length cap, .string x] w fun e w' => e = .returned (.int .i64 (idx ss x)) ∧ w = w' := by
  go_enter Try.func27, Try.ntmps27
  go_wp2
  go_loop [8] (fun i => ∃ k : Nat, k ≤ ss.length ∧ i = .int .i64 (k : Int) ∧ NoneTo ss x k) (fun i => ss.length - (intOf i).toNat)
  case atStart => exact ⟨0, Nat.zero_le _, rfl, fun j hj => absurd hj (Nat.not_lt_zero _)⟩
  case round =>
    obtain ⟨k, hk, rfl, hno⟩ := hrel
    have HN : Hid (NoneTo ss x k) := hno
    clear hno
    by_cases hlt : k < ss.length
    · rcases hx with hx | ⟨b, off, rfl, hb, hc⟩
      · subst hx; simp at hlt
      · have h1 := hc k hlt
        clear hc
        have hst : Hid ((ss.getD k ByteArray.empty).toList ≠ x.toList → NoneTo ss x (k + 1)) := fun h => HN.out.step h
        have hhit : Hid ((ss.getD k ByteArray.empty).toList = x.toList → idx ss x = (k : Int)) := fun h => HN.out.hit hlt h
        generalize ss.getD k ByteArray.empty = s at *
        by_cases e : s.toList = x.toList
        · have e' : (ByteArray.toList x == ByteArray.toList s) = true := by simp [e]
          have hh : Hid _ := hhit.out e
          clear e
          go_wp2
          go_ret
          exact ⟨ret_int hh.out.symm, rfl⟩
        · have e' : (ByteArray.toList x == ByteArray.toList s) = false := by simp [Ne.symm e]
          have hh : Hid _ := hst.out e
          clear e
          go_wp2
          go_round
          case rel => exact ⟨k + 1, by omega, by go_num, hh.out⟩
          case measure => simp [intOf]; omega
    · obtain rfl : k = ss.length := by omega
      go_wp2
      go_ret
      exact ⟨ret_int HN.out.miss.symm, rfl⟩

/-- zzOrderedAt: the p-th of header, then optional. -/
theorem ordered_any (ha oa : Option Addr) (hcap ocap : Nat) (hd op : List Str) (p : Nat) (w : World) (h1 : StrsAt w ha hd) (h2 : StrsAt w oa op) (hp : p < hd.length + op.length) (hl : hd.length + op.length ≤ 1048576) :
    Calls Try.prog 14 #[.slice ha hd.length hcap, .slice oa op.length ocap, .int .i64 (p : Int)] w fun e w' => e = .returned (.string ((hd ++ op).getD p ByteArray.empty)) ∧ w = w' := by
  by_cases hlt : p < hd.length
  · rcases h1 with h1 | ⟨b, off, rfl, hb, hc⟩
    · subst h1; simp at hlt
    · have hv := hc p hlt
      have e : (hd ++ op).getD p ByteArray.empty = hd.getD p ByteArray.empty := by simp [List.getElem?_append, hlt]
      rw [e]
      clear hc e
      generalize hd.getD p ByteArray.empty = s at *
      go_enter Try.func14, Try.ntmps14
      go_wp2
      go_ret
      exact ⟨rfl, rfl⟩
  · rcases h2 with h2 | ⟨b, off, rfl, hb, hc⟩
    · subst h2; simp at hp; omega
    · obtain ⟨q, rfl⟩ : ∃ q, p = hd.length + q := ⟨p - hd.length, by omega⟩
      have hv := hc q (by omega)
      have e : (hd ++ op).getD (hd.length + q) ByteArray.empty = op.getD q ByteArray.empty := by
        rw [List.getD_eq_getElem?_getD, List.getElem?_append_right (by omega)]
        simp
      rw [e]
      clear hc e
      generalize op.getD q ByteArray.empty = s at *
      go_enter Try.func14, Try.ntmps14
      go_wp2
      go_ret
      exact ⟨rfl, rfl⟩
end Go.Proofs.Qxb6603151a
