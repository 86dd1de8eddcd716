/-
  'ZZaddRange' (function 13): the array is taken by value; the answer is its words or-ed with the masks.
-/
import Derived.Test.Qxb6603436aRange
namespace Go.Proofs.Qxb6603436a
open Go.RowKit

/-- Four words as a value. -/
def four (f : Nat → Int) : Value := .agg #[.int .u64 (f 0), .int .u64 (f 1), .int .u64 (f 2), .int .u64 (f 3)]
def add (lo hi : Nat) (s : Nat → Int) : Nat → Int := wordAt lo hi s (hi / 64 + 1)

/-- The world at the call of addRange. -/
def laid (w : World) (s : Nat → Int) : World :=
  ((w.alloc (.cells #[.int .u64 (s 0), .int .u64 (s 1), .int .u64 (s 2), .int .u64 (s 3)] 29)).alloc (.cells #[.int .u64 0, .int .u64 0, .int .u64 0, .int .u64 0] 29)).alloc
    (.cells #[.int .u64 (s 0), .int .u64 (s 1), .int .u64 (s 2), .int .u64 (s 3)] 37)

theorem laid_size (w : World) (s : Nat → Int) : (laid w s).heap.size = w.heap.size + 3 := by simp [laid]
theorem laid_below (w : World) (s : Nat → Int) : Below w.heap.size w (laid w s) := (((Below.refl _ _).alloc (Nat.le_refl _) _).alloc (by simp) _).alloc (by simp; omega) _
theorem laid_set (w : World) (s : Nat → Int) : SetAt (laid w s) (laid w s) (w.heap.size + 1 + 1) s := by
  refine ⟨fun j hj => ?_, fun j => ?_, rfl, rfl, rfl, rfl, fun _ _ => rfl⟩
  · rw [laid, World.cell?_alloc_at _ _ _ _ (by simp)]
    match j, hj with
    | 0, _ => rfl
    | 1, _ => rfl
    | 2, _ => rfl
    | 3, _ => rfl
  · rw [laid, World.frozen?_alloc_at _ _ _ _ (by simp)]
/-- The result's own variable. -/
theorem laid_res (w : World) (s : Nat → Int) (j : Nat) (hj : j < 4) : (laid w s).cell? ⟨w.heap.size + 1, j, none⟩ = some (.int .u64 0) := by
  rw [laid, World.cell?_alloc_past _ _ _ (by simp), World.cell?_alloc_at _ _ _ _ (by simp)]
  match j, hj with
  | 0, _ => rfl
  | 1, _ => rfl
  | 2, _ => rfl
  | 3, _ => rfl
theorem laid_free (w : World) (s : Nat → Int) (j : Nat) : (laid w s).frozen? ⟨w.heap.size + 1, j, none⟩ = false := by
  rw [laid, World.frozen?_alloc_past _ _ _ (by simp), World.frozen?_alloc_at _ _ _ _ (by simp)]

set_option maxRecDepth 100000 in
set_option maxHeartbeats 800000 in
theorem zz_any (s : Nat → Int) (lo hi : Nat) (w : World) (hlo : lo ≤ 255) (hhi : hi ≤ 255) :
    Calls Try.prog 13 #[.agg #[.int .u64 (s 0), .int .u64 (s 1), .int .u64 (s 2), .int .u64 (s 3)], .int .i64 (lo : Int), .int .i64 (hi : Int)] w fun e w' => e = .returned (four (add lo hi s)) ∧ Below w.heap.size w w' := by
  have hc : Hid (Calls Try.prog 17 #[.pointer (some ⟨w.heap.size + 1 + 1, 0, none⟩), .int .i64 (lo : Int), .int .i64 (hi : Int)] (laid w s) fun e w' => e = .returned (.tuple #[]) ∧ SetAt (laid w s) w' (w.heap.size + 1 + 1) (add lo hi s)) :=
    range_any (w.heap.size + 1 + 1) s lo hi (laid w s) (laid_set w s) hlo hhi
  have HL : Hid _ := laid_below w s
  have HZ : Hid _ := laid_size w s
  have HR : Hid _ := laid_res w s
  have HF : Hid _ := laid_free w s
  go_enter Try.func13, Try.ntmps13
  go_wp2_with fail
  refine Calls.mono hc.out ?_
  rintro e w1 ⟨rfl, hS⟩
  have r0 : ∀ j, j < 4 → w1.cell? ⟨w.heap.size + 1, j, none⟩ = some (.int .u64 0) := fun j hj => by
    rw [World.cell?_of_block (w := laid w s) (a := ⟨w.heap.size + 1, j, none⟩) (hS.block (w.heap.size + 1) (by omega))]; exact HR.out j hj
  have f0 : ∀ j, w1.frozen? ⟨w.heap.size + 1, j, none⟩ = false := fun j => by
    rw [World.frozen?_of_block (w := laid w s) (a := ⟨w.heap.size + 1, j, none⟩) (hS.block (w.heap.size + 1) (by omega))]; exact HF.out j
  have HB : Hid (Below w.heap.size w w1) := by
    have b := HL.out
    refine ⟨hS.os.trans b.os, hS.tape.trans b.tape, hS.output.trans b.output, by rw [hS.size]; exact b.size, fun k hk => (hS.block k (by omega)).trans (b.block k hk)⟩
  have c0 := hS.cell 0 (by omega)
  have c1 := hS.cell 1 (by omega)
  have c2 := hS.cell 2 (by omega)
  have c3 := hS.cell 3 (by omega)
  have z0 := r0 0 (by omega)
  have z1 := r0 1 (by omega)
  have z2 := r0 2 (by omega)
  have z3 := r0 3 (by omega)
  have g0 := f0 0
  have g1 := f0 1
  have g2 := f0 2
  have g3 := f0 3
  have hsz : Hid (w1.heap.size = w.heap.size + 3) := hS.size.trans HZ.out
  clear hS r0 f0 hc HL HR HF HZ
  generalize hf : add lo hi s = f at *
  have HF : Hid _ := hf
  clear hf
  go_wp2_with fail
  exact bodyPost_ret (v := .agg #[.int .u64 (f 0), .int .u64 (f 1), .int .u64 (f 2), .int .u64 (f 3)]) (by simp [results, Try.results13, go_sem, z0, z1, z2, z3]) rfl
    ⟨by rw [HF.out]; rfl, (((HB.out.setCell (Nat.le_succ _) _).setCell (Nat.le_succ _) _).setCell (Nat.le_succ _) _).setCell (Nat.le_succ _) _⟩
end Go.Proofs.Qxb6603436a
