/-
  'passOverOne' (30): how many hold more than one.
-/
import Derived.Test.Qxb6603019aPlain2
namespace Go.Proofs.Qxb6603019a
open Go.RowKit

def overOne (xs : List Int) : Int := sumF overF 0 xs
theorem overOne_bound (xs : List Int) : 0 ≤ overOne xs ∧ overOne xs ≤ xs.length := sumF_bound overF (fun i x => by unfold overF; split <;> omega) xs 0
theorem overOne_take (xs : List Int) (k : Nat) (hk : k < xs.length) : overOne (xs.take (k + 1)) = overOne (xs.take k) + if 1 < xs.getD k 0 then 1 else 0 := sumF_take overF xs k hk

set_option maxHeartbeats 400000 in
theorem over_any (a : Option Addr) (cap : Nat) (xs : List Int) (w : World) (hx : IntsAt w a xs) (hlen : xs.length ≤ 65536) :
    Calls Try.prog 30 #[.slice a xs.length cap] w fun e w' => e = .returned (.int .i64 (overOne xs)) ∧ w = w' := by
  go_enter Try.func30, Try.ntmps30
  go_wp2
  go_loop [3, 4] (fun c i => ∃ k : Nat, k ≤ xs.length ∧ i = .int .i64 (k : Int) ∧ c = .int .i64 (overOne (xs.take k))) (fun _ i => xs.length - (intOf i).toNat)
  case atStart => exact ⟨0, Nat.zero_le _, rfl, rfl⟩
  case round =>
    obtain ⟨k, hk, rfl, rfl⟩ := hrel
    by_cases hlt : k < xs.length
    · rcases hx with hx | ⟨b, off, rfl, hb, hc⟩
      · subst hx; simp at hlt
      · have h1 := hc k hlt
        have hst : Hid _ := overOne_take xs k hlt
        have hbd := overOne_bound (xs.take k)
        have hle : (xs.take k).length ≤ k := List.length_take_le _ _
        clear hc
        generalize overOne (xs.take k) = c at *
        generalize xs.getD k 0 = x at *
        by_cases hx1 : 1 < x
        · rw [if_pos hx1] at hst
          go_wp2
          go_round
          case rel => exact ⟨k + 1, by omega, by go_num, by rw [hst.out]⟩
          case measure => simp [intOf]; omega
        · rw [if_neg hx1] at hst
          go_wp2
          go_round
          case rel => exact ⟨k + 1, by omega, by go_num, by rw [hst.out]; go_num⟩
          case measure => simp [intOf]; omega
    · obtain rfl : k = xs.length := by omega
      rw [List.take_length]
      go_wp2
      go_ret
      exact ⟨rfl, rfl⟩
end Go.Proofs.Qxb6603019a
