/-
  'passCopyMap' (function 28): a new map with clones of the lists.
-/
import Derived.Test.Qxb6603019aPut
import Derived.Deep.RegionHeld3
namespace Go.Proofs.Qxb6603019a
open Go.RowKit

/-- The copy behind k rounds. -/
structure CopyAt (w wr : World) (L : Int → List Int) (ks : List Int) : Prop where
  links : ∃ A' L' C' hs', LinksAt wr (some w.heap.size) A' L' C' hs' ∧ (∀ x ad, A' x = some ad → w.heap.size ≤ ad.block) ∧ ∀ x, L' x = [] ∨ (x ∈ ks ∧ L' x = L x)
  below : Below w.heap.size w wr
  size : w.heap.size < wr.heap.size

theorem CopyAt.start (w : World) (L : Int → List Int) (ks : List Int) : CopyAt w (w.alloc (.map #[] 0)) L ks := by
  refine ⟨⟨fun _ => none, fun _ => [], fun _ => 0, fun _ => false, ⟨⟨by simp, #[], 0, (MapKept.heap_alloc w _).1, fun e he => by simp at he, fun x => rfl⟩, fun x _ => ⟨rfl, rfl, rfl⟩, fun x => .inl rfl, fun x => by simp⟩, fun x ad h => by simp at h, fun x => .inl rfl⟩, (Below.refl _ _).alloc (Nat.le_refl _) _, by simp⟩

theorem CopyAt.drew {w wr : World} {L : Int → List Int} {ks : List Int} (h : CopyAt w wr L ks) : CopyAt w wr.drew L ks := by
  obtain ⟨⟨A', L', C', hs', h1, h2, h3⟩, hb, hz⟩ := h
  exact ⟨⟨A', L', C', hs', h1.below ((Below.refl _ _).drew), h2, h3⟩, hb.drew, hz⟩

/-- A row that lies in memory is no map. -/
theorem IntsAt.ne_map {w : World} {a : Option Addr} {xs : List Int} {b : Nat} {es : Array MapEntry} {clock : Nat} (h : IntsAt w a xs) (hb : w.heap[b]? = some (.map es clock)) : xs = [] ∨ ∃ b' off, a = some ⟨b', off, none⟩ ∧ b' ≠ b := by
  rcases h with h | ⟨b', off, rfl, hlt, hc⟩
  · exact .inl h
  · by_cases hx : xs = []
    · exact .inl hx
    · refine .inr ⟨b', off, rfl, fun e => ?_⟩
      subst e
      have := hc 0 (List.length_pos_iff.2 hx)
      simp [World.cell?, hb] at this

/-- A store of a list's clone into the copy. -/
theorem CopyAt.put {w wr : World} {L : Int → List Int} {ks : List Int} (h : CopyAt w wr L ks) (x : Int) (hx : x ∈ ks) (a : Option Addr) (c : Nat) (ha : IntsAt wr a (L x)) (hlen : (L x).length * 8 ≤ 140737488351232)
    (hab : ∀ ad, a = some ad → w.heap.size ≤ ad.block) :
    ∃ w2, (Instr.mapUpdate 44 (.map (some w.heap.size)) (.int .i64 x) (.slice a (L x).length c)).run Try.prog wr = .ok () w2 ∧ CopyAt w w2 L ks := by
  obtain ⟨⟨A', L', C', hs', h1, h2, h3⟩, hb, hz⟩ := h
  obtain ⟨w2, hrun, hm, ht⟩ := h1.map.put x (.slice a (L x).length c)
  obtain ⟨_, es, clock, hblk, _⟩ := h1.map
  have keep : ∀ (a : Option Addr) (xs : List Int), IntsAt wr a xs → IntsAt w2 a xs := fun a xs hi => by
    rcases hi.ne_map hblk with h | ⟨b', off, rfl, hne⟩
    · exact .inl h
    · refine hi.kept (by rw [ht.size]; exact Nat.le_refl _) fun b off' e _ => ?_
      simp only [Option.some.injEq, Addr.mk.injEq] at e
      exact ht.block b (by rw [← e.1]; exact hne)
  refine ⟨w2, hrun, ⟨⟨fun y => if y = x then a else A' y, fun y => if y = x then L x else L' y, fun y => if y = x then c else C' y, fun y => if y = x then true else hs' y, ⟨?_, ?_, ?_, ?_⟩, ?_, ?_⟩, ?_, by rw [ht.size]; exact hz⟩⟩
  · have e : (fun y => if (if y = x then true else hs' y) = true then some (Value.slice (if y = x then a else A' y) (if y = x then L x else L' y).length (if y = x then c else C' y)) else none) =
        fun y => if y = x then some (Value.slice a (L x).length c) else if hs' y then some (.slice (A' y) (L' y).length (C' y)) else none := by
      funext y
      by_cases e : y = x
      · simp [e]
      · simp [e]
    rw [e]
    exact hm
  · intro y hy
    by_cases e : y = x
    · simp [e] at hy
    · simp [e] at hy ⊢
      exact h1.off y hy
  · intro y
    by_cases e : y = x
    · simp [e]; exact keep _ _ ha
    · simp [e]; exact keep _ _ (h1.ints y)
  · intro y
    by_cases e : y = x
    · simp [e]; omega
    · simp [e]; exact h1.len y
  · intro y ad
    by_cases e : y = x
    · simp [e]; exact hab ad
    · simp [e]; exact h2 y ad
  · intro y
    by_cases e : y = x
    · subst e; simp [hx]
    · simp [e]; exact h3 y
  · refine ⟨ht.os.trans hb.os, ht.tape.trans hb.tape, ht.output.trans hb.output, by rw [ht.size]; exact hb.size, fun k hk => (ht.block k (by omega)).trans (hb.block k hk)⟩

theorem CopyAt.alloc {w wr : World} {L : Int → List Int} {ks : List Int} (h : CopyAt w wr L ks) (o : Obj) : CopyAt w (wr.alloc o) L ks := by
  obtain ⟨⟨A', L', C', hs', h1, h2, h3⟩, hb, hz⟩ := h
  refine ⟨⟨A', L', C', hs', h1.below ((Below.refl _ _).alloc (Nat.le_refl _) _), h2, h3⟩, hb.alloc hb.size _, by simp; omega⟩

theorem IntsAt.row (w : World) (xs : List Int) : IntsAt (w.alloc (.cells (rowOf xs) 3)) (some ⟨w.heap.size, 0, none⟩) xs := by
  refine .inr ⟨_, _, rfl, by simp, fun j hj => ?_⟩
  rw [World.cell?_alloc_at _ _ _ _ rfl, rowOf_at]
  simp [hj]

set_option maxRecDepth 100000 in
set_option maxHeartbeats 1600000 in
theorem copy_some (bm : Nat) (ka : Option Addr) (kcap : Nat) (ks : List Int) (A : Int → Option Addr) (L : Int → List Int) (C : Int → Nat) (hs : Int → Bool) (w : World)
    (hk : IntsAt w ka ks) (hl : LinksAt w (some bm) A L C hs) (b2 : ks.length ≤ 65536) (hsh : Short L ks ks.length) :
    Calls Try.prog 28 #[.map (some bm), .slice ka ks.length kcap] w fun e w' => e = .returned (.map (some w.heap.size)) ∧ CopyAt w w' L ks := by
  have he := fun w => run_eql_map_nil (P := Try.prog) w 44 3 33 (some bm) Try.underlying44
  have hmm := fun n w => run_makeMap_hint n w
  go_enter Try.func28, Try.ntmps28
  go_wp2
  clear he hmm
  go_loopw [6] (fun i wr => ∃ k : Nat, k ≤ ks.length ∧ i = .int .i64 (k : Int) ∧ CopyAt w wr L ks) (fun i _ => ks.length - (intOf i).toNat)
  case atStart => exact ⟨0, Nat.zero_le _, rfl, CopyAt.start w L ks⟩
  case round =>
    obtain ⟨k, hkl, rfl, hR⟩ := hrel
    by_cases hlt : k < ks.length
    · rcases hk with hk | ⟨b, off, rfl, hb, hc⟩
      · subst hk; simp at hlt
      · have hx : ks.getD k 0 ∈ ks := by simp [hlt]
        have h1 : w.cell? ⟨b, off + k, none⟩ = some (.int .i64 (ks.getD k 0)) := hc k hlt
        have hlen : (L (ks.getD k 0)).length * 8 ≤ 140737488351232 := by have := hsh k hlt; omega
        generalize ks.getD k 0 = x at *
        have hb0 : (0 : Int) ≤ (k : Int) := by omega
        have hb1 : (k : Int) < (ks.length : Int) := by omega
        have Hcl : Hid (∀ w', Below w.heap.size w w' → w'.cell? ⟨b, off + k, none⟩ = some (.int .i64 x)) := fun w' hw => by
          rw [hw.cell (p := ⟨b, off + k, none⟩) hb]; exact h1
        have Hlk : Hid (∀ w', Below w.heap.size w w' → (Instr.lookup 44 (.map (some bm)) (.int .i64 x) false).run Try.prog w' = .ok (.slice (A x) (L x).length (C x)) w') := fun w' hw => (hl.below hw).look x
        have Hcn : Hid (∀ w', Below w.heap.size w w' → IntsAt w' (A x) (L x)) := fun w' hw => (hl.below hw).ints x
        have Hb1 : Hid _ := hR.below.drew
        have Hb2 : Hid _ := (hR.below.alloc hR.below.size (.cells (rowOf (L x)) 3)).drew
        clear hc h1
        generalize hA : A x = a at *
        clear hA
        cases a with
        | none =>
          have hnil : L x = [] := by
            rcases Hcn.out _ Hb1.out with h | ⟨b', off', h, _⟩
            · exact h
            · simp at h
          obtain ⟨w2, hput, hR2⟩ := hR.drew.put x hx none 0 (.inl hnil) hlen (fun ad h => by simp at h)
          rw [hnil] at hput Hlk hlen
          rw [List.length_nil] at hput
          have HR2 : Hid _ := hR2
          clear hR2 hnil
          go_wp2
          go_region_held3 (fun w' => w'.cell? ⟨b, off + k, none⟩ = some (.int .i64 x) ∧ (Instr.lookup 44 (.map (some bm)) (.int .i64 x) false).run Try.prog w' = .ok (.slice none 0 (C x)) w')
            (first
              | exact ⟨Hcl.out _ Hb1.out, Hlk.out _ Hb1.out⟩
              | exact ⟨Hcl.out _ HR2.out.below, Hlk.out _ HR2.out.below⟩)
            ((go_at_call 27; refine (clone_nil (C x) _).mono ?_; rintro e w' ⟨rfl, rfl⟩))
          go_wp2
          go_roundw
          case rel => exact ⟨k + 1, by omega, by go_num, HR2.out⟩
          case measure => simp [intOf]; omega
        | some ad =>
          obtain ⟨w2, hput, hR2⟩ := ((hR.alloc (.cells (rowOf (L x)) 3)).drew).put x hx (some ⟨wr.heap.size, 0, none⟩) (L x).length (by exact IntsAt.row wr (L x)) hlen (fun ad h => by simp at h; subst h; exact hR.below.size)
          have HR2 : Hid _ := hR2
          clear hR2
          go_wp2
          go_region_held3 (fun w' => w'.cell? ⟨b, off + k, none⟩ = some (.int .i64 x) ∧ (Instr.lookup 44 (.map (some bm)) (.int .i64 x) false).run Try.prog w' = .ok (.slice (some ad) (L x).length (C x)) w')
            (first
              | exact ⟨Hcl.out _ Hb1.out, Hlk.out _ Hb1.out⟩
              | exact ⟨Hcl.out _ Hb2.out, Hlk.out _ Hb2.out⟩
              | exact ⟨Hcl.out _ HR2.out.below, Hlk.out _ HR2.out.below⟩)
            ((go_at_call 27; refine (clone_some ad (L x) (C x) _ (Hcn.out _ Hb1.out) hlen).mono ?_; rintro e w' ⟨rfl, rfl⟩))
          go_wp2
          go_roundw
          case rel => exact ⟨k + 1, by omega, by go_num, HR2.out⟩
          case measure => simp [intOf]; omega
    · go_wp2
      go_ret
      exact ⟨rfl, hR⟩

theorem copy_none (ka : Option Addr) (kn kcap : Nat) (w : World) :
    Calls Try.prog 28 #[.map none, .slice ka kn kcap] w fun e w' => e = .returned (.map none) ∧ w = w' := by
  have he := fun w => run_eql_map_nil (P := Try.prog) w 44 3 33 none Try.underlying44
  go_enter Try.func28, Try.ntmps28
  go_wp2
  go_ret
  exact ⟨rfl, rfl⟩

/-- What 'passCopyMap' leaves. -/
def CopyPost (w : World) (L : Int → List Int) (ks : List Int) (e : Ending) (w' : World) : Prop :=
  ∃ m' A' L' C' hs', e = .returned (.map m') ∧ LinksAt w' m' A' L' C' hs' ∧ (∀ x ad, A' x = some ad → w.heap.size ≤ ad.block) ∧ (∀ b, m' = some b → w.heap.size ≤ b) ∧ (∀ x, L' x = [] ∨ (x ∈ ks ∧ L' x = L x)) ∧ Below w.heap.size w w'

theorem copy_any (m : Option Nat) (ka : Option Addr) (kcap : Nat) (ks : List Int) (A : Int → Option Addr) (L : Int → List Int) (C : Int → Nat) (hs : Int → Bool) (w : World)
    (hk : IntsAt w ka ks) (hl : LinksAt w m A L C hs) (b2 : ks.length ≤ 65536) (hsh : Short L ks ks.length) :
    Calls Try.prog 28 #[.map m, .slice ka ks.length kcap] w (CopyPost w L ks) := by
  cases m with
  | none =>
    refine (copy_none ka ks.length kcap w).mono fun e w' ⟨h1, h2⟩ => ?_
    subst h2
    exact ⟨none, fun _ => none, fun _ => [], fun _ => 0, fun _ => false, h1, ⟨fun x => rfl, fun x _ => ⟨rfl, rfl, rfl⟩, fun x => .inl rfl, fun x => by simp⟩, fun x ad h => by simp at h, fun b h => by simp at h, fun x => .inl rfl, Below.refl _ _⟩
  | some bm =>
    refine (copy_some bm ka kcap ks A L C hs w hk hl b2 hsh).mono fun e w' ⟨h1, h2⟩ => ?_
    obtain ⟨⟨A', L', C', hs', k1, k2, k3⟩, hb, hz⟩ := h2
    exact ⟨_, A', L', C', hs', h1, k1, k2, fun b h => by simp at h; omega, k3, hb⟩
end Go.Proofs.Qxb6603019a
