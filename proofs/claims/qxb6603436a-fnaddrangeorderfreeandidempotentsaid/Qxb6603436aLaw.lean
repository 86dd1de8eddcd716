/-
  THE WALK of 'FnAddRangeOrderFreeAndIdempotent' (function 7): it returns true.
-/
import Derived.Test.Qxb6603436aPlain
import Derived.ChangeKeysEq
import Derived.Deep.RegionHeld3
namespace Go.Proofs.Qxb6603436a
open Go.RowKit

/-- The four words f lie in block B. -/
def Box (w : World) (B : Nat) (f : Nat → Int) : Prop := B < w.heap.size ∧ w.cell? ⟨B, 0, none⟩ = some (.int .u64 (f 0)) ∧ w.cell? ⟨B, 1, none⟩ = some (.int .u64 (f 1)) ∧ w.cell? ⟨B, 2, none⟩ = some (.int .u64 (f 2)) ∧ w.cell? ⟨B, 3, none⟩ = some (.int .u64 (f 3))
def boxed (w : World) (f : Nat → Int) : World := w.alloc (.cells #[.int .u64 (f 0), .int .u64 (f 1), .int .u64 (f 2), .int .u64 (f 3)] 29)

theorem Box.new (w : World) (f : Nat → Int) : Box (boxed w f) w.heap.size f := by
  refine ⟨by simp [boxed], ?_, ?_, ?_, ?_⟩ <;> (rw [boxed, World.cell?_alloc_at _ _ _ _ rfl]; rfl)
theorem Box.below {w w' : World} {B : Nat} {f : Nat → Int} (h : Box w B f) (k : Below w.heap.size w w') : Box w' B f := by
  obtain ⟨h0, h1, h2, h3, h4⟩ := h
  refine ⟨Nat.lt_of_lt_of_le h0 k.size, ?_, ?_, ?_, ?_⟩
  · rw [k.cell (p := ⟨B, 0, none⟩) h0]; exact h1
  · rw [k.cell (p := ⟨B, 1, none⟩) h0]; exact h2
  · rw [k.cell (p := ⟨B, 2, none⟩) h0]; exact h3
  · rw [k.cell (p := ⟨B, 3, none⟩) h0]; exact h4
theorem Box.at {w : World} {B : Nat} {f : Nat → Int} (h : Box w B f) (i : Nat) (hi : i < 4) : w.cell? ⟨B, i, none⟩ = some (.int .u64 (f i)) := by
  obtain ⟨_, h1, h2, h3, h4⟩ := h
  match i, hi with
  | 0, _ => exact h1
  | 1, _ => exact h2
  | 2, _ => exact h3
  | 3, _ => exact h4
theorem boxed_below (w : World) (f : Nat → Int) : Below w.heap.size w (boxed w f) := (Below.refl _ _).alloc (Nat.le_refl _) _
theorem Below.more {w w1 w2 : World} (h : Below w.heap.size w w1) (k : Below w1.heap.size w1 w2) : Below w.heap.size w w2 := h.trans (k.mono h.size)

theorem info25 : (Try.prog.info? 25).map (fun i => (i.zero, i.size, i.bytes)) = some (some (.int .u64 0), 1, 8) := by kernel_rfl
theorem cells25 : Try.prog.cellsOf 25 = 1 := by kernel_rfl
/-- Four words against themselves. -/
theorem run_equal_four (f : Nat → Int) (w : World) : (Op.equalIn 10000 29 (.agg #[.int .u64 (f 0), .int .u64 (f 1), .int .u64 (f 2), .int .u64 (f 3)]) (.agg #[.int .u64 (f 0), .int .u64 (f 1), .int .u64 (f 2), .int .u64 (f 3)])).run Try.prog w = .ok true w := by
  obtain ⟨i, hi, _⟩ := Option.map_eq_some_iff.1 info25
  rw [run_equalIn_array w 9999 _ _ Try.underlying29 hi, cells25]
  have pt : ∀ (xs : Array Value) (j : Nat) (v : Value), xs[j]? = some v → (part 25 xs j).run Try.prog w = .ok v w := fun xs j v h => by
    simp [part, h]
  have eq : ∀ a : Int, (Op.equalIn 9999 25 (.int .u64 a) (.int .u64 a)).run Try.prog w = .ok true w := fun a => by
    rw [run_equalIn_int w 9998 25 .u64 .u64 a a Try.underlying25]; simp
  show (Op.eqItems 9999 25 1 _ _ [0, 1, 2, 3]).run Try.prog w = _
  have p0 := pt #[.int .u64 (f 0), .int .u64 (f 1), .int .u64 (f 2), .int .u64 (f 3)] 0 _ rfl
  have p1 := pt #[.int .u64 (f 0), .int .u64 (f 1), .int .u64 (f 2), .int .u64 (f 3)] 1 _ rfl
  have p2 := pt #[.int .u64 (f 0), .int .u64 (f 1), .int .u64 (f 2), .int .u64 (f 3)] 2 _ rfl
  have p3 := pt #[.int .u64 (f 0), .int .u64 (f 1), .int .u64 (f 2), .int .u64 (f 3)] 3 _ rfl
  simp [Op.eqItems, p0, p1, p2, p3, eq]

def TruePost (w : World) (e : Ending) (w' : World) : Prop := e = .returned (.bool true) ∧ Below w.heap.size w w'

set_option maxRecDepth 100000 in
set_option maxHeartbeats 1600000 in
theorem core (s : Nat → Int) (a b c d : Nat) (w : World) (ha : a ≤ 255) (hb : b ≤ 255) (hc : c ≤ 255) (hd : d ≤ 255) (hs : ∀ j, 0 ≤ s j ∧ s j < 18446744073709551616) :
    Calls Try.prog 7 #[.agg #[.int .u64 (s 0), .int .u64 (s 1), .int .u64 (s 2), .int .u64 (s 3)], .int .i64 (a : Int), .int .i64 (b : Int), .int .i64 (c : Int), .int .i64 (d : Int)] w (TruePost w) := by
  have zz : Hid (∀ (f : Nat → Int) (lo hi : Nat) (w : World), lo ≤ 255 → hi ≤ 255 → Calls Try.prog 13 #[.agg #[.int .u64 (f 0), .int .u64 (f 1), .int .u64 (f 2), .int .u64 (f 3)], .int .i64 (lo : Int), .int .i64 (hi : Int)] w fun e w' => e = .returned (four (add lo hi f)) ∧ Below w.heap.size w w') := fun f lo hi w h1 h2 => zz_any f lo hi w h1 h2
  have p1 : decide ((a : Int) < 0) = false := decide_eq_false (by omega)
  have p2 : decide ((255 : Int) < (a : Int)) = false := decide_eq_false (by omega)
  have p3 : decide ((b : Int) < 0) = false := decide_eq_false (by omega)
  have p4 : decide ((255 : Int) < (b : Int)) = false := decide_eq_false (by omega)
  have p5 : decide ((c : Int) < 0) = false := decide_eq_false (by omega)
  have p6 : decide ((255 : Int) < (c : Int)) = false := decide_eq_false (by omega)
  have p7 : decide ((d : Int) < 0) = false := decide_eq_false (by omega)
  have p8 : decide ((255 : Int) < (d : Int)) = false := decide_eq_false (by omega)
  have heq := fun f w => run_equal_four f w
  have Hs : Hid (∀ j, 0 ≤ s j ∧ s j < 18446744073709551616) := hs
  clear hs
  go_enter Try.func7, Try.ntmps7
  go_wp2_with fail
  refine Calls.mono (zz.out s a b _ ha hb) ?_
  rintro e w1 ⟨rfl, b1⟩
  have X1 : Hid (Box w1 w.heap.size s) := (Box.new w s).below b1
  have B1 : Hid (Below w.heap.size w w1) := Below.more (boxed_below w s) b1
  clear b1
  have hx : Hid (∀ j, add c d (add a b s) j = add a b (add c d s) j) := add_swap a b c d s
  have hy : Hid (∀ j, add a b (add a b s) j = add a b s j) := add_again a b s
  have hh : Hid (∀ j, bits .and .u64 (add a b s j) (s j) = s j) := fun j => add_holds a b s j (Hs.out j).1 (Hs.out j).2
  unfold four
  generalize hab : add a b s = ab at *
  go_wp2_with fail
  refine Calls.mono (zz.out ab c d _ hc hd) ?_
  rintro e w2 ⟨rfl, b2⟩
  have X2 : Hid (Box w2 w.heap.size s) := ((X1.out.below (boxed_below w1 ab)).below b2)
  have Y2 : Hid (Box w2 w1.heap.size ab) := (Box.new w1 ab).below b2
  have B2 : Hid (Below w.heap.size w w2) := Below.more (Below.more B1.out (boxed_below w1 ab)) b2
  clear b2 hab X1
  obtain ⟨u0, u1, u2, u3, u4⟩ := X2.out
  unfold four
  generalize hxx : add c d ab = x at *
  go_wp2_with fail
  refine Calls.mono (zz.out s c d _ hc hd) ?_
  rintro e w3 ⟨rfl, b3⟩
  have X3 : Hid (Box w3 w.heap.size s) := ((X2.out.below (boxed_below w2 x)).below b3)
  have Y3 : Hid (Box w3 w1.heap.size ab) := ((Y2.out.below (boxed_below w2 x)).below b3)
  have Z3 : Hid (Box w3 w2.heap.size x) := (Box.new w2 x).below b3
  have B3 : Hid (Below w.heap.size w w3) := Below.more (Below.more B2.out (boxed_below w2 x)) b3
  clear b3 u0 u1 u2 u3 u4 X2 Y2
  unfold four
  generalize hcd : add c d s = cd at *
  go_wp2_with fail
  refine Calls.mono (zz.out cd a b _ ha hb) ?_
  rintro e w4 ⟨rfl, b4⟩
  have X4 : Hid (Box w4 w.heap.size s) := X3.out.below b4
  have Y4 : Hid (Box w4 w1.heap.size ab) := Y3.out.below b4
  have Z4 : Hid (Box w4 w2.heap.size x) := Z3.out.below b4
  have B4 : Hid (Below w.heap.size w w4) := Below.more B3.out b4
  clear b4 X3 Y3 Z3 hcd hxx
  obtain ⟨u0, u1, u2, u3, u4⟩ := Z4.out
  unfold four
  have y0 := hx.out 0
  have y1 := hx.out 1
  have y2 := hx.out 2
  have y3 := hx.out 3
  rw [← y0, ← y1, ← y2, ← y3]
  clear y0 y1 y2 y3
  have X5 : Hid (Box (boxed w4 x) w.heap.size s) := X4.out.below (boxed_below w4 x)
  have Y5 : Hid (Box (boxed w4 x) w1.heap.size ab) := Y4.out.below (boxed_below w4 x)
  have B5 : Hid (Below w.heap.size w (boxed w4 x)) := Below.more B4.out (boxed_below w4 x)
  go_wp2_with fail
  clear u0 u1 u2 u3 u4 X4 Y4 Z4 B4 B3 B2 B1 hx
  unfold boxed at X5 Y5 B5
  generalize w4.alloc (.cells #[.int .u64 (x 0), .int .u64 (x 1), .int .u64 (x 2), .int .u64 (x 3)] 29) = w5 at *
  obtain ⟨u0, u1, u2, u3, u4⟩ := Y5.out
  have hcall : Hid (Calls Try.prog 13 #[.agg #[.int .u64 (ab 0), .int .u64 (ab 1), .int .u64 (ab 2), .int .u64 (ab 3)], .int .i64 (a : Int), .int .i64 (b : Int)] w5.drew fun e w' => e = .returned (.agg #[.int .u64 (ab 0), .int .u64 (ab 1), .int .u64 (ab 2), .int .u64 (ab 3)]) ∧ Below w5.heap.size w5 w') :=
    Calls.mono (zz.out ab a b w5.drew ha hb) fun e w' ⟨h1, h2⟩ => ⟨by rw [h1]; unfold four; rw [hy.out 0, hy.out 1, hy.out 2, hy.out 3], Below.trans (B := w5.heap.size) ((Below.refl _ w5).drew) h2⟩
  go_region_held3 (fun w' => w'.cell? ⟨w1.heap.size, 0, none⟩ = some (.int .u64 (ab 0)) ∧ w'.cell? ⟨w1.heap.size, 1, none⟩ = some (.int .u64 (ab 1)) ∧ w'.cell? ⟨w1.heap.size, 2, none⟩ = some (.int .u64 (ab 2)) ∧ w'.cell? ⟨w1.heap.size, 3, none⟩ = some (.int .u64 (ab 3)))
    (first
      | exact ⟨u1, u2, u3, u4⟩
      | exact (Y5.out.below b6).2)
    ((go_at_call 13; refine Calls.mono hcall.out ?_; rintro e w6 ⟨rfl, b6⟩))
  have X6 : Hid (Box w6 w.heap.size s) := X5.out.below b6
  have Y6 : Hid (Box w6 w1.heap.size ab) := Y5.out.below b6
  have B6 : Hid (Below w.heap.size w w6) := Below.more B5.out b6
  clear b6 X5 Y5 B5 u0 u1 u2 u3 u4 hcall zz hy
  go_wp2_with fail
  go_loopw [14] (fun iv wr => ∃ (i dn : Nat), i ≤ 4 ∧ iv = .int .i64 (i : Int) ∧ wr = w6.drewN dn) (fun iv _ => 4 - (intOf iv).toNat)
  case atStart => exact ⟨0, 0, by omega, rfl, rfl⟩
  case round =>
    obtain ⟨i, dn, hi, rfl, rfl⟩ := hrel
    by_cases hlt : i < 4
    · have k1 := X6.out.at i hlt
      have k2 := Y6.out.at i hlt
      have i0 : (0 : Int) ≤ (i : Int) := by omega
      have i1 : (i : Int) < 4 := by omega
      have e1 : (bits .and .u64 (ab i) (s i) != s i) = false := by rw [hh.out i]; simp
      go_wp2_with fail
      go_quiet (fail)
      go_wp2_with fail
      go_roundw
      case rel => exact ⟨i + 1, _, by omega, by go_num, rfl⟩
      case measure => simp [intOf]; omega
    · go_wp2_with fail
      go_ret
      exact ⟨rfl, below_drewN B6.out dn⟩
end Go.Proofs.Qxb6603436a
