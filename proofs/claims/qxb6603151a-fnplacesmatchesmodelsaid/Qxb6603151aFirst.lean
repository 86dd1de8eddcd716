/-
  'zzFirstAt' (24).
-/
import Derived.Test.Qxb6603151aPlainM
namespace Go.Proofs.Qxb6603151a
open Go.RowKit

def FirstPost (w : World) (ss : List Str) (i : Nat) (e : Ending) (w' : World) : Prop :=
  ∃ b : Bool, e = .returned (.bool b) ∧ (b = true ↔ NoneTo ss (ss.getD i ByteArray.empty) i) ∧ ∃ n, w' = w.drewN n

set_option maxRecDepth 100000 in
set_option maxHeartbeats 800000 in
theorem first_any (a : Option Addr) (cap : Nat) (ss : List Str) (i : Nat) (w : World) (hx : StrsAt w a ss) (hlen : ss.length ≤ 65536) (hi : i < ss.length) :
    Calls Try.prog 24 #[.slice a ss.length cap, .int .i64 (i : Int)] w (FirstPost w ss i) := by
  rcases hx with hx | ⟨b, off, rfl, hb, hc⟩
  · subst hx; simp at hi
  have hci := hc i hi
  have HC : Hid (∀ j, j < ss.length → w.cell? ⟨b, off + j, none⟩ = some (.string (ss.getD j ByteArray.empty))) := hc
  have i0 : (0 : Int) ≤ (i : Int) := by omega
  have i1 : (i : Int) < (ss.length : Int) := by omega
  clear hc
  go_enter Try.func24, Try.ntmps24
  go_wp2
  go_loopw [5] (fun jv wr => ∃ (j d : Nat), j ≤ i ∧ jv = .int .i64 (j : Int) ∧ wr = w.drewN d ∧ NoneTo ss (ss.getD i ByteArray.empty) j) (fun jv _ => i - (intOf jv).toNat)
  case atStart => exact ⟨0, 0, Nat.zero_le _, rfl, rfl, fun j hj => absurd hj (Nat.not_lt_zero _)⟩
  case round =>
    obtain ⟨j, d, hj, rfl, rfl, hno⟩ := hrel
    have HN : Hid (NoneTo ss (ss.getD i ByteArray.empty) j) := hno
    clear hno
    by_cases hlt : j < i
    · have hcj := HC.out j (by omega)
      have j0 : (0 : Int) ≤ (j : Int) := by omega
      have j1 : (j : Int) < (ss.length : Int) := by omega
      by_cases e : (ss.getD j ByteArray.empty).toList = (ss.getD i ByteArray.empty).toList
      · have hbad : Hid (¬ NoneTo ss (ss.getD i ByteArray.empty) i) := fun h => h j hlt e
        have fin : Hid (∀ d', FirstPost w ss i (.returned (.bool false)) (w.drewN d')) := fun d' => ⟨false, rfl, ⟨fun h => absurd h (by simp), fun h => absurd h hbad.out⟩, d', rfl⟩
        clear hbad HN
        generalize ss.getD j ByteArray.empty = s at *
        generalize ss.getD i ByteArray.empty = t at *
        have e' : (ByteArray.toList s == ByteArray.toList t) = true := by simp [e]
        clear e
        go_wp2_with fail
        go_quiet (fail)
        go_wp2_with fail
        go_ret
        have := fin.out (d + nq)
        rw [← World.drewN_drewN] at this
        exact this
      · have hst : Hid (NoneTo ss (ss.getD i ByteArray.empty) (j + 1)) := HN.out.step e
        generalize ss.getD j ByteArray.empty = s at *
        generalize ss.getD i ByteArray.empty = t at *
        have e' : (ByteArray.toList s == ByteArray.toList t) = false := by simp [e]
        clear e
        go_wp2_with fail
        go_quiet (fail)
        go_wp2_with fail
        go_roundw
        case rel => exact ⟨j + 1, _, by omega, by go_num, rfl, hst.out⟩
        case measure => simp [intOf]; omega
    · obtain rfl : j = i := by omega
      go_wp2_with fail
      go_ret
      exact ⟨true, rfl, ⟨fun _ => HN.out, fun _ => rfl⟩, d, rfl⟩
end Go.Proofs.Qxb6603151a
