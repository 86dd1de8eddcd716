/-
  THE LAWS' GUARDS: 'passBytes' (24), 'passKeysEnumerate' (25), 'passDomainOK' (26). Of the first two the laws need no more than that they return; of the third: what 'true' means.
-/
import Derived.Test.Qxb6603019aClone
import Derived.Deep.QuietTactic
import Derived.BigQuiet
import Derived.WalkSmall
namespace Go.Proofs.Qxb6603019a
open Go.RowKit

/-- The map '.map m' leads from x to the slice of the numbers L x at A x (nothing where there is no such key). -/
structure LinksAt (w : World) (m : Option Nat) (A : Int → Option Addr) (L : Int → List Int) (C : Int → Nat) (hs : Int → Bool) : Prop where
  map : MapAt w m (fun x => if hs x then some (.slice (A x) (L x).length (C x)) else none)
  off : ∀ x, hs x = false → A x = none ∧ L x = [] ∧ C x = 0
  ints : ∀ x, IntsAt w (A x) (L x)
  len : ∀ x, (L x).length ≤ 9223372036854775807

theorem LinksAt.below {w w' : World} {m : Option Nat} {A : Int → Option Addr} {L : Int → List Int} {C : Int → Nat} {hs : Int → Bool} (h : LinksAt w m A L C hs) (k : Below w.heap.size w w') : LinksAt w' m A L C hs :=
  ⟨h.map.below k, h.off, fun x => (h.ints x).below k, h.len⟩

theorem LinksAt.look {w : World} {m : Option Nat} {A : Int → Option Addr} {L : Int → List Int} {C : Int → Nat} {hs : Int → Bool} (h : LinksAt w m A L C hs) (x : Int) :
    (Instr.lookup 44 (.map m) (.int .i64 x) false).run Try.prog w = .ok (.slice (A x) (L x).length (C x)) w := by
  rw [h.map.look x false]
  cases hx : hs x
  · obtain ⟨e1, e2, e3⟩ := h.off x hx
    simp [e1, e2, e3]
  · simp

theorem LinksAt.look_ok {w : World} {m : Option Nat} {A : Int → Option Addr} {L : Int → List Int} {C : Int → Nat} {hs : Int → Bool} (h : LinksAt w m A L C hs) (x : Int) :
    (Instr.lookup 44 (.map m) (.int .i64 x) true).run Try.prog w = .ok (.tuple #[.slice (A x) (L x).length (C x), .bool (hs x)]) w := by
  rw [h.map.look x true]
  cases hx : hs x
  · obtain ⟨e1, e2, e3⟩ := h.off x hx
    simp [e1, e2, e3]
  · simp

/-- What 'passBytes' tells: at 2^20 or less, each list is that short. -/
def Short (L : Int → List Int) (ks : List Int) (k : Nat) : Prop := ∀ i, i < k → (L (ks.getD i 0)).length ≤ 1048576
def BytesPost (L : Int → List Int) (ks : List Int) (w : World) (e : Ending) (w' : World) : Prop := ∃ t : Int, e = .returned (.int .i64 t) ∧ (t ≤ 1048576 → Short L ks ks.length) ∧ w = w'
theorem BytesPost.mk {L : Int → List Int} {ks : List Int} {w w' : World} {e : Ending} {t : Int} (h1 : e = .returned (.int .i64 t)) (h2 : t ≤ 1048576 → Short L ks ks.length) (h3 : w = w') : BytesPost L ks w e w' := ⟨t, h1, h2, h3⟩

set_option maxHeartbeats 400000 in
theorem bytes_any (ha ka : Option Addr) (hn hcap kcap : Nat) (ks : List Int) (m : Option Nat) (A : Int → Option Addr) (L : Int → List Int) (C : Int → Nat) (hs : Int → Bool) (w : World)
    (hk : IntsAt w ka ks) (hl : LinksAt w m A L C hs) (b1 : hn ≤ 65536) (b2 : ks.length ≤ 65536) :
    Calls Try.prog 24 #[.slice ha hn hcap, .map m, .slice ka ks.length kcap] w (BytesPost L ks w) := by
  obtain ⟨mn, hm⟩ := hl.map.len
  have hlook := fun x => hl.look x
  go_enter Try.func24, Try.ntmps24
  go_wp2
  clear hm
  go_loop [7, 8] (fun t i => ∃ (t' : Int) (k : Nat), k ≤ ks.length ∧ t = .int .i64 t' ∧ i = .int .i64 (k : Int) ∧ Short L ks k) (fun _ i => ks.length - (intOf i).toNat)
  case atStart => exact ⟨_, 0, Nat.zero_le _, rfl, rfl, fun i hi => absurd hi (Nat.not_lt_zero _)⟩
  case round =>
    obtain ⟨t', k, hkl, rfl, rfl, hsh⟩ := hrel
    have HSh : Hid (Short L ks k) := hsh
    clear hsh
    by_cases hlt : k < ks.length
    · rcases hk with hk | ⟨b, off, rfl, hb, hc⟩
      · subst hk; simp at hlt
      · have h1 := hc k hlt
        have hlx := hl.len (ks.getD k 0)
        have hst : Hid ((L (ks.getD k 0)).length ≤ 1048576 → Short L ks (k + 1)) := fun h i hi => by
          rcases Nat.lt_succ_iff_lt_or_eq.1 hi with hi | rfl
          · exact HSh.out i hi
          · exact h
        clear hc
        generalize ks.getD k 0 = x at *
        go_wp2
        · go_ret
          exact BytesPost.mk rfl (fun h => by omega) rfl
        · go_ret
          exact BytesPost.mk rfl (fun h => by omega) rfl
        · have hle : ((L x).length : Int) ≤ 1048576 := by assumption
          go_round
          case rel => exact ⟨_, k + 1, by omega, rfl, by go_num, hst.out (by omega)⟩
          case measure => simp [intOf]; omega
    · obtain rfl : k = ks.length := by omega
      go_wp2
      go_ret
      exact BytesPost.mk rfl (fun _ => HSh.out) rfl

set_option maxHeartbeats 400000 in
theorem enum_any (ka : Option Addr) (kcap : Nat) (ks : List Int) (m : Option Nat) (A : Int → Option Addr) (L : Int → List Int) (C : Int → Nat) (hs : Int → Bool) (w : World)
    (hk : IntsAt w ka ks) (hl : LinksAt w m A L C hs) (b2 : ks.length ≤ 65536) :
    Calls Try.prog 25 #[.map m, .slice ka ks.length kcap] w fun e w' => ∃ b : Bool, e = .returned (.bool b) ∧ ∃ n, w' = w.drewN n := by
  obtain ⟨mn, hm⟩ := hl.map.len
  have hlook := fun n x => (hl.below (below_drewN (Below.refl _ w) n)).look_ok x
  by_cases hmn : (ks.length : Int) = mn
  · have hne : ((ks.length : Int) != mn) = false := by simp [hmn]
    clear hmn
    go_enter Try.func25, Try.ntmps25
    go_wp2
    clear hm
    go_loopw [5] (fun i wr => ∃ (k n : Nat), k ≤ ks.length ∧ i = .int .i64 (k : Int) ∧ wr = w.drewN n) (fun i _ => ks.length - (intOf i).toNat)
    case atStart => exact ⟨0, 0, Nat.zero_le _, rfl, rfl⟩
    case round =>
      obtain ⟨k, n, hkl, rfl, rfl⟩ := hrel
      by_cases hlt : k < ks.length
      · rcases hk with hk | ⟨b, off, rfl, hb, hc⟩
        · subst hk; simp at hlt
        · by_cases h0 : k = 0
          · subst h0
            have h1 : w.cell? ⟨b, off, none⟩ = some (.int .i64 (ks.getD 0 0)) := by simpa using hc 0 hlt
            have hd' : decide ((0 : Int) < 0) = false := by simp
            clear hc
            go_wp2
            · go_ret
              exact ⟨_, rfl, n, rfl⟩
            · go_quiet (fail)
              go_wp2
              go_roundw
              case rel => exact ⟨1, _, by omega, by go_num, rfl⟩
              case measure => simp [intOf]; omega
          · obtain ⟨j, rfl⟩ : ∃ j, k = j + 1 := ⟨k - 1, by omega⟩
            have h1 := hc (j + 1) hlt
            have h2 := hc j (by omega)
            have hd' : decide ((0 : Int) < (j : Int) + 1) = true := by simp
            clear hc
            go_wp2
            · go_ret
              exact ⟨_, rfl, n, rfl⟩
            · have hb1 : (0 : Int) ≤ (j : Int) + 1 - 1 := by omega
              have hb2 : (j : Int) + 1 - 1 < (ks.length : Int) := by omega
              go_quiet (fail)
              go_wp2
              · go_ret
                exact ⟨_, rfl, n + nq, by rw [World.drewN_drewN]⟩
              · go_roundw
                case rel => exact ⟨j + 1 + 1, _, by omega, by go_num, rfl⟩
                case measure => simp [intOf]; omega
      · go_wp2
        go_ret
        exact ⟨_, rfl, n, rfl⟩
  · have hne : ((ks.length : Int) != mn) = true := by simp [hmn]
    clear hmn
    go_enter Try.func25, Try.ntmps25
    go_wp2
    go_ret
    exact ⟨_, rfl, 0, rfl⟩

/-- What 'passDomainOK' asks of the key a. -/
def DomAt (n : Nat) (L : Int → List Int) (a : Int) : Prop := 0 ≤ a → a < n → ∀ j, j < (L a).length → (L a).getD j 0 < n
def Dom (n : Nat) (L : Int → List Int) (ks : List Int) (k : Nat) : Prop := ∀ i, i < k → DomAt n L (ks.getD i 0)

theorem Dom.step {n : Nat} {L : Int → List Int} {ks : List Int} {k : Nat} (h : Dom n L ks k) (h1 : DomAt n L (ks.getD k 0)) : Dom n L ks (k + 1) := fun i hi => by
  rcases Nat.lt_succ_iff_lt_or_eq.1 hi with hi | rfl
  · exact h i hi
  · exact h1

def DomPost (n : Nat) (L : Int → List Int) (ks : List Int) (w : World) (e : Ending) (w' : World) : Prop := ∃ b : Bool, e = .returned (.bool b) ∧ (b = true → Dom n L ks ks.length) ∧ w = w'
theorem DomPost.mk {n : Nat} {L : Int → List Int} {ks : List Int} {w w' : World} {e : Ending} {b : Bool} (h1 : e = .returned (.bool b)) (h2 : b = true → Dom n L ks ks.length) (h3 : w = w') : DomPost n L ks w e w' := ⟨b, h1, h2, h3⟩

set_option maxHeartbeats 400000 in
theorem dom_any (n : Nat) (ka : Option Addr) (kcap : Nat) (ks : List Int) (m : Option Nat) (A : Int → Option Addr) (L : Int → List Int) (C : Int → Nat) (hs : Int → Bool) (w : World)
    (hk : IntsAt w ka ks) (hl : LinksAt w m A L C hs) (b2 : ks.length ≤ 65536) :
    Calls Try.prog 26 #[.int .i64 (n : Int), .map m, .slice ka ks.length kcap] w (DomPost n L ks w) := by
  have hlook := fun x => hl.look x
  go_enter Try.func26, Try.ntmps26
  go_wp2
  go_loop [7] (fun i => ∃ k : Nat, k ≤ ks.length ∧ i = .int .i64 (k : Int) ∧ Dom n L ks k) (fun i => ks.length - (intOf i).toNat)
  case atStart => exact ⟨0, Nat.zero_le _, rfl, fun i hi => absurd hi (Nat.not_lt_zero _)⟩
  case round =>
    obtain ⟨k, hkl, rfl, hdom⟩ := hrel
    by_cases hlt : k < ks.length
    · rcases hk with hk | ⟨b, off, rfl, hb, hc⟩
      · subst hk; simp at hlt
      · have h1 : w.cell? ⟨b, off + k, none⟩ = some (.int .i64 (ks.getD k 0)) := hc k hlt
        have hst := hdom.step (k := k)
        have hli := hl.ints (ks.getD k 0)
        have hle := hl.len (ks.getD k 0)
        clear hc hdom
        generalize ks.getD k 0 = a at *
        by_cases c1 : a < 0
        · have hst' : Hid (Dom n L ks (k + 1)) := hst (fun h => absurd h (by omega))
          clear hst
          go_wp2
          go_round
          case rel => exact ⟨k + 1, by omega, by go_num, hst'.out⟩
          case measure => simp [intOf]; omega
        · by_cases c2 : (n : Int) ≤ a
          · have hst' : Hid (Dom n L ks (k + 1)) := hst (fun _ h => absurd h (by omega))
            clear hst
            go_wp2
            go_round
            case rel => exact ⟨k + 1, by omega, by go_num, hst'.out⟩
            case measure => simp [intOf]; omega
          · have Hst : Hid _ := hst
            have Hli : Hid _ := hli
            clear hst hli
            have HA : Hid (0 ≤ a ∧ a < n) := ⟨by omega, by omega⟩
            go_wp2
            generalize hls : L a = ls at *
            generalize A a = ad at *
            generalize C a = cc at *
            have HL : Hid (L a = ls) := hls
            clear hls
            go_loop [10] (fun jv => ∃ j : Nat, j ≤ ls.length ∧ jv = .int .i64 (j : Int) ∧ ∀ j', j' < j → ls.getD j' 0 < n) (fun jv => ls.length - (intOf jv).toNat)
            case atStart => exact ⟨0, Nat.zero_le _, rfl, fun i hi => absurd hi (Nat.not_lt_zero _)⟩
            case round =>
              obtain ⟨j, hj, rfl, hall⟩ := hrel
              by_cases hjl : j < ls.length
              · rcases Hli.out with hx | ⟨b', off', rfl, hb', hc'⟩
                · subst hx; simp at hjl
                · have h2 := hc' j hjl
                  have Hall : Hid _ := hall
                  clear hc' hall
                  go_wp2
                  · go_ret
                    exact DomPost.mk rfl (fun h => by cases h) rfl
                  · have hv : ls[j] < (n : Int) := by assumption
                    go_round
                    case rel =>
                      refine ⟨j + 1, by omega, by go_num, fun j' hj' => ?_⟩
                      rcases Nat.lt_succ_iff_lt_or_eq.1 hj' with h | rfl
                      · exact Hall.out j' h
                      · simpa [hjl] using hv
                    case measure => simp [intOf]; omega
              · obtain rfl : j = ls.length := by omega
                go_wp2
                go_round
                case rel => exact ⟨k + 1, by omega, by go_num, Hst.out (fun _ _ j hj => by rw [HL.out] at hj ⊢; exact hall j hj)⟩
                case measure => simp [intOf]; omega
    · obtain rfl : k = ks.length := by omega
      go_wp2
      go_ret
      exact DomPost.mk rfl (fun _ => hdom) rfl
end Go.Proofs.Qxb6603019a
