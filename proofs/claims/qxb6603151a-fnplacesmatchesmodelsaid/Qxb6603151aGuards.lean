/-
  'zzCloneStrings' (10), and the laws' guards: 'zzStringsBytes' (9), 'zzBytes_..' (15, 8): of the guards the laws need no more than that they return.
-/
import Derived.Test.Qxb6603151aBase
namespace Go.Proofs.Qxb6603151a
open Go.RowKit

/-- The new row's cells behind k rounds. -/
def arrAt (xs : List Str) (k : Nat) : Array Value := ((List.range xs.length).map fun j => Value.string (if j < k then xs.getD j ByteArray.empty else ByteArray.empty)).toArray
/-- A row of strings. -/
def rowOf (xs : List Str) : Array Value := (xs.map Value.string).toArray

theorem arrAt_at (xs : List Str) (k j : Nat) : (arrAt xs k)[j]? = if j < xs.length then some (.string (if j < k then xs.getD j ByteArray.empty else ByteArray.empty)) else none := by
  simp only [arrAt, List.getElem?_toArray, List.getElem?_map]
  by_cases h : j < xs.length
  · rw [List.getElem?_range h]; simp [h]
  · rw [List.getElem?_eq_none (by simpa using h)]; simp [h]
theorem arrAt_size (xs : List Str) (k : Nat) : (arrAt xs k).size = xs.length := by
  simp [arrAt]
theorem rowOf_at (xs : List Str) (j : Nat) : (rowOf xs)[j]? = if j < xs.length then some (.string (xs.getD j ByteArray.empty)) else none := by
  by_cases h : j < xs.length
  · simp [rowOf, h]
  · simp [rowOf, h]
theorem arrAt_zero (xs : List Str) : madeCells #[.string ByteArray.empty] xs.length = arrAt xs 0 := by
  apply Array.ext_getElem?
  intro j
  rw [arrAt_at, ← Array.getElem?_toList, toList_madeCells_one, List.getElem?_replicate]
  simp
theorem arrAt_end (xs : List Str) : arrAt xs xs.length = rowOf xs := by
  apply Array.ext_getElem?
  intro j
  rw [arrAt_at, rowOf_at]
  by_cases h : j < xs.length
  · simp [h]
  · simp [h]
theorem arrAt_step (xs : List Str) (k : Nat) (h : k < xs.length) : (arrAt xs k).setIfInBounds k (.string (xs.getD k ByteArray.empty)) = arrAt xs (k + 1) := by
  apply Array.ext_getElem?
  intro j
  rw [Array.getElem?_setIfInBounds, arrAt_at, arrAt_at, arrAt_size]
  by_cases e : k = j
  · subst e
    simp [h]
  · by_cases l : j < k
    · rw [if_neg e, if_pos l, if_pos (show j < k + 1 by omega)]
    · rw [if_neg e, if_neg l, if_neg (show ¬ j < k + 1 by omega)]
theorem arrAt_get (xs : List Str) (k : Nat) (h : k < xs.length) : (arrAt xs k)[k]? = some (.string ByteArray.empty) := by
  rw [arrAt_at]
  simp [h]

theorem clone_nil (cap : Nat) (w : World) : Calls Try.prog 10 #[.slice none 0 cap] w fun e w' => e = .returned (.slice none 0 0) ∧ w = w' := by
  have he := fun w => Lib.run_eql_slice_nil (P := Try.prog) w 22 9 none 0 cap 0 0 Try.underlying22
  go_enter Try.func10, Try.ntmps10
  go_wp2
  go_ret
  exact ⟨rfl, rfl⟩

set_option maxHeartbeats 400000 in
theorem clone_some (ad : Addr) (xs : List Str) (cap : Nat) (w : World) (hx : StrsAt w (some ad) xs) (hlen : xs.length ≤ 65536) :
    Calls Try.prog 10 #[.slice (some ad) xs.length cap] w fun e w' => e = .returned (.slice (some ⟨w.heap.size, 0, none⟩) xs.length xs.length) ∧ w.alloc (.cells (rowOf xs) 9) = w' := by
  have he := fun w => Lib.run_eql_slice_nil (P := Try.prog) w 22 9 (some ad) xs.length cap 0 0 Try.underlying22
  have hmk := fun w => run_make_row' (P := Try.prog) 22 9 (.string ByteArray.empty) 16 Try.underlying22 info9 rfl .i64 .i64 xs.length (by omega) (by omega) w
  rw [arrAt_zero] at hmk
  go_enter Try.func10, Try.ntmps10
  go_wp2
  clear he hmk
  go_loopw [4] (fun i wr => ∃ k : Nat, k ≤ xs.length ∧ i = .int .i64 (k : Int) ∧ wr = w.alloc (.cells (arrAt xs k) 9)) (fun i _ => xs.length - (intOf i).toNat)
  case atStart => exact ⟨0, Nat.zero_le _, rfl, rfl⟩
  case round =>
    obtain ⟨k, hk, rfl, rfl⟩ := hrel
    by_cases hlt : k < xs.length
    · rcases hx with hx | ⟨b, off, hab, hb, hc⟩
      · subst hx; simp at hlt
      · obtain rfl : ad = ⟨b, off, none⟩ := by simpa using hab
        have h1 : w.cell? ⟨b, off + k, none⟩ = some (.string (xs.getD k ByteArray.empty)) := hc k hlt
        have h2 := arrAt_get xs k hlt
        have H3 : Hid _ := arrAt_step xs k hlt
        clear hc
        generalize xs.getD k ByteArray.empty = s at *
        go_wp2
        go_roundw
        case rel => exact ⟨k + 1, by omega, by go_num, by rw [← H3.out]⟩
        case measure => simp [intOf]; omega
    · obtain rfl : k = xs.length := by omega
      go_wp2
      go_ret
      exact ⟨rfl, by rw [arrAt_end]⟩

theorem StrsAt.row (w : World) (xs : List Str) : StrsAt (w.alloc (.cells (rowOf xs) 9)) (some ⟨w.heap.size, 0, none⟩) xs := by
  refine .inr ⟨_, _, rfl, by simp, fun j hj => ?_⟩
  rw [World.cell?_alloc_at _ _ _ _ rfl, rowOf_at]
  simp [hj]

/-- What 'zzCloneStrings' leaves, nil or not. -/
def ClonePost (w : World) (xs : List Str) (e : Ending) (w' : World) : Prop :=
  ∃ ao cap, e = .returned (.slice ao xs.length cap) ∧ StrsAt w' ao xs ∧ Below w.heap.size w w' ∧ (ao = none → cap = 0)

theorem clone_any (a : Option Addr) (xs : List Str) (cap : Nat) (w : World) (hx : StrsAt w a xs) (hlen : xs.length ≤ 65536) :
    Calls Try.prog 10 #[.slice a xs.length cap] w (ClonePost w xs) := by
  cases a with
  | none =>
    have h0 : xs = [] := by
      rcases hx with h | ⟨_, _, h, _⟩
      · exact h
      · simp at h
    subst h0
    exact (clone_nil cap w).mono fun e w' ⟨h1, h2⟩ => ⟨none, 0, h1, .inl rfl, h2 ▸ Below.refl _ _, fun _ => rfl⟩
  | some ad =>
    refine (clone_some ad xs cap w hx hlen).mono fun e w' ⟨h1, h2⟩ => ?_
    subst h2
    exact ⟨_, _, h1, StrsAt.row w xs, (Below.refl _ _).alloc (Nat.le_refl _) _, fun h => by simp at h⟩

def SomeInt (w : World) (e : Ending) (w' : World) : Prop := ∃ t : Int, e = .returned (.int .i64 t) ∧ w = w'
theorem SomeInt.mk {w w' : World} {e : Ending} {t : Int} (h1 : e = .returned (.int .i64 t)) (h2 : w = w') : SomeInt w e w' := ⟨t, h1, h2⟩
def SomeBool (w : World) (e : Ending) (w' : World) : Prop := ∃ b : Bool, e = .returned (.bool b) ∧ w = w'
theorem SomeBool.mk {w w' : World} {e : Ending} {b : Bool} (h1 : e = .returned (.bool b)) (h2 : w = w') : SomeBool w e w' := ⟨b, h1, h2⟩

set_option maxHeartbeats 800000 in
/-- zzStringsBytes -/
theorem strBytes_any (a : Option Addr) (cap : Nat) (xs : List Str) (w : World) (hx : StrsAt w a xs) (hlen : xs.length ≤ 65536) :
    Calls Try.prog 9 #[.slice a xs.length cap, .int .i64 1048576] w (SomeInt w) := by
  go_enter Try.func9, Try.ntmps9
  go_wp2
  go_loop [5, 6] (fun t i => ∃ (t' : Int) (k : Nat), k ≤ xs.length ∧ t = .int .i64 t' ∧ i = .int .i64 (k : Int)) (fun _ i => xs.length - (intOf i).toNat)
  case atStart => exact ⟨_, 0, Nat.zero_le _, rfl, rfl⟩
  case round =>
    obtain ⟨t', k, hk, rfl, rfl⟩ := hrel
    by_cases hlt : k < xs.length
    · rcases hx with hx | ⟨b, off, rfl, hb, hc⟩
      · subst hx; simp at hlt
      · have h1 := hc k hlt
        clear hc
        generalize xs.getD k ByteArray.empty = s at *
        go_wp2
        · go_ret
          exact SomeInt.mk rfl rfl
        · go_ret
          exact SomeInt.mk rfl rfl
        · go_round
          case rel => exact ⟨_, k + 1, by omega, rfl, by go_num⟩
          case measure => simp [intOf]; omega
    · go_wp2
      go_ret
      exact SomeInt.mk rfl rfl

set_option maxRecDepth 100000 in
set_option maxHeartbeats 1600000 in
theorem bytes15 (a0 : Option Addr) (c0 : Nat) (xs : List Str) (a1 : Option Addr) (c1 : Nat) (ys : List Str) (a2 : Option Addr) (c2 : Nat) (zs : List Str) (m at_ k_ : Int) (w : World) (h0 : StrsAt w a0 xs) (_l0 : xs.length ≤ 9223372036854775807) (h1 : StrsAt w a1 ys) (_l1 : ys.length ≤ 9223372036854775807) (h2 : StrsAt w a2 zs) (_l2 : zs.length ≤ 9223372036854775807) :
    Calls Try.prog 15 #[.slice a0 xs.length c0, .slice a1 ys.length c1, .slice a2 zs.length c2, .int .i64 m, .int .i64 at_, .int .i64 k_] w (SomeBool w) := by
  go_enter Try.func15, Try.ntmps15
  go_wp2
  · go_ret
    exact SomeBool.mk rfl rfl
  · skip
    go_loop [13, 14] (fun t i => ∃ (t' : Int) (k : Nat), k ≤ xs.length ∧ t = .int .i64 t' ∧ i = .int .i64 (k : Int)) (fun _ i => xs.length - (intOf i).toNat)
    case atStart => exact ⟨_, 0, Nat.zero_le _, rfl, rfl⟩
    case round =>
      obtain ⟨t', k, hk, rfl, rfl⟩ := hrel
      by_cases hlt : k < xs.length
      · rcases h0 with hx | ⟨b, off, rfl, hb, hc⟩
        · subst hx; simp at hlt
        · have h1 := hc k hlt
          clear hc
          generalize xs.getD k ByteArray.empty = s at *
          go_wp2
          · go_ret
            exact SomeBool.mk rfl rfl
          · go_ret
            exact SomeBool.mk rfl rfl
          · go_round
            case rel => exact ⟨_, k + 1, by omega, rfl, by go_num⟩
            case measure => simp [intOf]; omega
      · go_wp2
        · go_ret
          exact SomeBool.mk rfl rfl
        · go_ret
          exact SomeBool.mk rfl rfl
        · clear hlt hk
          go_loop [13, 15] (fun t i => ∃ (t' : Int) (k : Nat), k ≤ ys.length ∧ t = .int .i64 t' ∧ i = .int .i64 (k : Int)) (fun _ i => ys.length - (intOf i).toNat)
          case atStart => exact ⟨_, 0, Nat.zero_le _, rfl, rfl⟩
          case round =>
            obtain ⟨t', k, hk, rfl, rfl⟩ := hrel
            by_cases hlt : k < ys.length
            · rcases h1 with hx | ⟨b, off, rfl, hb, hc⟩
              · subst hx; simp at hlt
              · have h1 := hc k hlt
                clear hc
                generalize ys.getD k ByteArray.empty = s at *
                go_wp2
                · go_ret
                  exact SomeBool.mk rfl rfl
                · go_ret
                  exact SomeBool.mk rfl rfl
                · go_round
                  case rel => exact ⟨_, k + 1, by omega, rfl, by go_num⟩
                  case measure => simp [intOf]; omega
            · go_wp2
              · go_ret
                exact SomeBool.mk rfl rfl
              · go_ret
                exact SomeBool.mk rfl rfl
              · clear hlt hk
                go_loop [13, 16] (fun t i => ∃ (t' : Int) (k : Nat), k ≤ zs.length ∧ t = .int .i64 t' ∧ i = .int .i64 (k : Int)) (fun _ i => zs.length - (intOf i).toNat)
                case atStart => exact ⟨_, 0, Nat.zero_le _, rfl, rfl⟩
                case round =>
                  obtain ⟨t', k, hk, rfl, rfl⟩ := hrel
                  by_cases hlt : k < zs.length
                  · rcases h2 with hx | ⟨b, off, rfl, hb, hc⟩
                    · subst hx; simp at hlt
                    · have h1 := hc k hlt
                      clear hc
                      generalize zs.getD k ByteArray.empty = s at *
                      go_wp2
                      · go_ret
                        exact SomeBool.mk rfl rfl
                      · go_ret
                        exact SomeBool.mk rfl rfl
                      · go_round
                        case rel => exact ⟨_, k + 1, by omega, rfl, by go_num⟩
                        case measure => simp [intOf]; omega
                  · go_wp2
                    go_ret
                    exact SomeBool.mk rfl rfl

set_option maxRecDepth 100000 in
set_option maxHeartbeats 1600000 in
theorem bytes8 (a0 : Option Addr) (c0 : Nat) (xs : List Str) (a1 : Option Addr) (c1 : Nat) (ys : List Str) (a2 : Option Addr) (c2 : Nat) (zs : List Str) (a3 : Option Addr) (c3 : Nat) (us : List Str) (w : World) (h0 : StrsAt w a0 xs) (_l0 : xs.length ≤ 9223372036854775807) (h1 : StrsAt w a1 ys) (_l1 : ys.length ≤ 9223372036854775807) (h2 : StrsAt w a2 zs) (_l2 : zs.length ≤ 9223372036854775807) (h3 : StrsAt w a3 us) (_l3 : us.length ≤ 9223372036854775807) :
    Calls Try.prog 8 #[.slice a0 xs.length c0, .slice a1 ys.length c1, .slice a2 zs.length c2, .slice a3 us.length c3] w (SomeBool w) := by
  go_enter Try.func8, Try.ntmps8
  go_wp2
  · go_ret
    exact SomeBool.mk rfl rfl
  · skip
    go_loop [9, 10] (fun t i => ∃ (t' : Int) (k : Nat), k ≤ xs.length ∧ t = .int .i64 t' ∧ i = .int .i64 (k : Int)) (fun _ i => xs.length - (intOf i).toNat)
    case atStart => exact ⟨_, 0, Nat.zero_le _, rfl, rfl⟩
    case round =>
      obtain ⟨t', k, hk, rfl, rfl⟩ := hrel
      by_cases hlt : k < xs.length
      · rcases h0 with hx | ⟨b, off, rfl, hb, hc⟩
        · subst hx; simp at hlt
        · have h1 := hc k hlt
          clear hc
          generalize xs.getD k ByteArray.empty = s at *
          go_wp2
          · go_ret
            exact SomeBool.mk rfl rfl
          · go_ret
            exact SomeBool.mk rfl rfl
          · go_round
            case rel => exact ⟨_, k + 1, by omega, rfl, by go_num⟩
            case measure => simp [intOf]; omega
      · go_wp2
        · go_ret
          exact SomeBool.mk rfl rfl
        · go_ret
          exact SomeBool.mk rfl rfl
        · clear hlt hk
          go_loop [9, 11] (fun t i => ∃ (t' : Int) (k : Nat), k ≤ ys.length ∧ t = .int .i64 t' ∧ i = .int .i64 (k : Int)) (fun _ i => ys.length - (intOf i).toNat)
          case atStart => exact ⟨_, 0, Nat.zero_le _, rfl, rfl⟩
          case round =>
            obtain ⟨t', k, hk, rfl, rfl⟩ := hrel
            by_cases hlt : k < ys.length
            · rcases h1 with hx | ⟨b, off, rfl, hb, hc⟩
              · subst hx; simp at hlt
              · have h1 := hc k hlt
                clear hc
                generalize ys.getD k ByteArray.empty = s at *
                go_wp2
                · go_ret
                  exact SomeBool.mk rfl rfl
                · go_ret
                  exact SomeBool.mk rfl rfl
                · go_round
                  case rel => exact ⟨_, k + 1, by omega, rfl, by go_num⟩
                  case measure => simp [intOf]; omega
            · go_wp2
              · go_ret
                exact SomeBool.mk rfl rfl
              · go_ret
                exact SomeBool.mk rfl rfl
              · clear hlt hk
                go_loop [9, 12] (fun t i => ∃ (t' : Int) (k : Nat), k ≤ zs.length ∧ t = .int .i64 t' ∧ i = .int .i64 (k : Int)) (fun _ i => zs.length - (intOf i).toNat)
                case atStart => exact ⟨_, 0, Nat.zero_le _, rfl, rfl⟩
                case round =>
                  obtain ⟨t', k, hk, rfl, rfl⟩ := hrel
                  by_cases hlt : k < zs.length
                  · rcases h2 with hx | ⟨b, off, rfl, hb, hc⟩
                    · subst hx; simp at hlt
                    · have h1 := hc k hlt
                      clear hc
                      generalize zs.getD k ByteArray.empty = s at *
                      go_wp2
                      · go_ret
                        exact SomeBool.mk rfl rfl
                      · go_ret
                        exact SomeBool.mk rfl rfl
                      · go_round
                        case rel => exact ⟨_, k + 1, by omega, rfl, by go_num⟩
                        case measure => simp [intOf]; omega
                  · go_wp2
                    · go_ret
                      exact SomeBool.mk rfl rfl
                    · go_ret
                      exact SomeBool.mk rfl rfl
                    · clear hlt hk
                      go_loop [9, 13] (fun t i => ∃ (t' : Int) (k : Nat), k ≤ us.length ∧ t = .int .i64 t' ∧ i = .int .i64 (k : Int)) (fun _ i => us.length - (intOf i).toNat)
                      case atStart => exact ⟨_, 0, Nat.zero_le _, rfl, rfl⟩
                      case round =>
                        obtain ⟨t', k, hk, rfl, rfl⟩ := hrel
                        by_cases hlt : k < us.length
                        · rcases h3 with hx | ⟨b, off, rfl, hb, hc⟩
                          · subst hx; simp at hlt
                          · have h1 := hc k hlt
                            clear hc
                            generalize us.getD k ByteArray.empty = s at *
                            go_wp2
                            · go_ret
                              exact SomeBool.mk rfl rfl
                            · go_ret
                              exact SomeBool.mk rfl rfl
                            · go_round
                              case rel => exact ⟨_, k + 1, by omega, rfl, by go_num⟩
                              case measure => simp [intOf]; omega
                        · go_wp2
                          go_ret
                          exact SomeBool.mk rfl rfl
end Go.Proofs.Qxb6603151a
