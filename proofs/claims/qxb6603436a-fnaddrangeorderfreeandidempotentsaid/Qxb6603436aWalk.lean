/-
  THE WALK of function 7 at every input, and the array that came in.
-/
import Derived.Test.Qxb6603436aLaw
import Derived.Lib.SmallJoins
import Derived.ShutString
import Derived.ChangeOld
import Derived.Below
namespace Go.Proofs.Qxb6603436a
open Go.ChangeShapes Go.WideShapes Go.ChangeAt Go.RowKit

set_option maxHeartbeats 800000 in
theorem walk (s : Nat → Int) (a b c d : Int) (w : World) (hs : ∀ j, 0 ≤ s j ∧ s j < 18446744073709551616) :
    Calls Try.prog 7 #[.agg #[.int .u64 (s 0), .int .u64 (s 1), .int .u64 (s 2), .int .u64 (s 3)], .int .i64 a, .int .i64 b, .int .i64 c, .int .i64 d] w (TruePost w) := by
  have Hs : Hid (∀ j, 0 ≤ s j ∧ s j < 18446744073709551616) := hs
  clear hs
  by_cases c1 : a < 0
  · go_enter Try.func7, Try.ntmps7
    go_wp2
    go_ret
    exact ⟨rfl, (Below.refl _ _).alloc (Nat.le_refl _) _⟩
  by_cases c2 : 255 < a
  · go_enter Try.func7, Try.ntmps7
    go_wp2
    go_ret
    exact ⟨rfl, (Below.refl _ _).alloc (Nat.le_refl _) _⟩
  by_cases c3 : b < 0
  · go_enter Try.func7, Try.ntmps7
    go_wp2
    go_ret
    exact ⟨rfl, (Below.refl _ _).alloc (Nat.le_refl _) _⟩
  by_cases c4 : 255 < b
  · go_enter Try.func7, Try.ntmps7
    go_wp2
    go_ret
    exact ⟨rfl, (Below.refl _ _).alloc (Nat.le_refl _) _⟩
  by_cases c5 : c < 0
  · go_enter Try.func7, Try.ntmps7
    go_wp2
    go_ret
    exact ⟨rfl, (Below.refl _ _).alloc (Nat.le_refl _) _⟩
  by_cases c6 : 255 < c
  · go_enter Try.func7, Try.ntmps7
    go_wp2
    go_ret
    exact ⟨rfl, (Below.refl _ _).alloc (Nat.le_refl _) _⟩
  by_cases c7 : d < 0
  · go_enter Try.func7, Try.ntmps7
    go_wp2
    go_ret
    exact ⟨rfl, (Below.refl _ _).alloc (Nat.le_refl _) _⟩
  by_cases c8 : 255 < d
  · go_enter Try.func7, Try.ntmps7
    go_wp2
    go_ret
    exact ⟨rfl, (Below.refl _ _).alloc (Nat.le_refl _) _⟩
  obtain ⟨a, rfl⟩ := Int.eq_ofNat_of_zero_le (show 0 ≤ a by omega)
  obtain ⟨b, rfl⟩ := Int.eq_ofNat_of_zero_le (show 0 ≤ b by omega)
  obtain ⟨c, rfl⟩ := Int.eq_ofNat_of_zero_le (show 0 ≤ c by omega)
  obtain ⟨d, rfl⟩ := Int.eq_ofNat_of_zero_le (show 0 ≤ d by omega)
  exact core s a b c d w (by omega) (by omega) (by omega) (by omega) Hs.out

/-- Four words as a function. -/
def pickOf (n0 n1 n2 n3 : Int) : Nat → Int
  | 0 => n0
  | 1 => n1
  | 2 => n2
  | 3 => n3
  | _ => 0

/-- An array of four words that was read. -/
theorem four_view {H : Type} {enc : TypeId × Value → H} {W : World} {sp : Nat → Bool} {held : Bool} {base b0 : Nat} {v : Value} {d : DataW H} {p : List MemPlace}
    (hv : Value.okWide Try.prog W .any b0 29 v) (h : DataW.Trod enc Try.prog W base sp held 29 v d p) :
    ∃ s : Nat → Int, v = .agg #[.int .u64 (s 0), .int .u64 (s 1), .int .u64 (s 2), .int .u64 (s 3)] ∧ ∀ j, 0 ≤ s j ∧ s j < 18446744073709551616 := by
  obtain ⟨cs, rfl, hsz, _⟩ : ∃ cs, v = .agg cs ∧ cs.size = Try.prog.cellsOf 29 ∧ Row.okWide Try.prog W .any b0 29 cs := by
    simpa [Value.okWide, Try.underlying29] using hv
  obtain ⟨c0, c1, c2, c3, rfl⟩ := Go.Joins.array4 (hsz.trans (by kernel_rfl))
  obtain ⟨fuel, hf⟩ := h
  obtain ⟨xs, m, rfl, _, _, hl, hx⟩ := DataW.trod_array Try.underlying29 hf
  rw [show Try.prog.cellsOf 25 = 1 from cells25] at hx
  have k0 := hx 0 (by omega)
  have k1 := hx 1 (by omega)
  have k2 := hx 2 (by omega)
  have k3 := hx 3 (by omega)
  simp [Value.cells] at k0 k1 k2 k3
  match xs, hl with
  | [y0, y1, y2, y3], _ =>
    obtain ⟨n0, e0, _, w0⟩ := DataW.trod_int Try.underlying25 k0
    obtain ⟨n1, e1, _, w1⟩ := DataW.trod_int Try.underlying25 k1
    obtain ⟨n2, e2, _, w2⟩ := DataW.trod_int Try.underlying25 k2
    obtain ⟨n3, e3, _, w3⟩ := DataW.trod_int Try.underlying25 k3
    simp at e0 e1 e2 e3
    subst e0 e1 e2 e3
    have b0 := bounds_u64 w0
    have b1 := bounds_u64 w1
    have b2 := bounds_u64 w2
    have b3 := bounds_u64 w3
    refine ⟨pickOf n0 n1 n2 n3, rfl, fun j => ?_⟩
    match j with
    | 0 => show 0 ≤ n0 ∧ n0 < _; omega
    | 1 => show 0 ≤ n1 ∧ n1 < _; omega
    | 2 => show 0 ≤ n2 ∧ n2 < _; omega
    | 3 => show 0 ≤ n3 ∧ n3 < _; omega
    | _ + 4 => exact ⟨Int.le_refl 0, by show (0 : Int) < _; omega⟩
end Go.Proofs.Qxb6603436a
