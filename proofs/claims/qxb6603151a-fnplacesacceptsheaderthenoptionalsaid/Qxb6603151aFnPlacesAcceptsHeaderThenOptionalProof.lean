/-
  'Rows.FnPlacesAcceptsHeaderThenOptionalSaid' proved: the frame; the walk lies in its own texts.
-/
import Derived.Test.Qxb6603151aAccNeg
import Derived.Test.Qxb6603151aAccPos
import Derived.Test.Qxb6603151aOpen
namespace Go.Proofs.Qxb6603151a.fnPlacesAcceptsHeaderThenOptional
open Go.ChangeShapes Go.WideShapes Go.ChangeAt Go.RowKit

theorem own : ownKnob Try.prog.godebug = none := by kernel_rfl
theorem laidOut : laidOutB Try.prog = true := by kernel_rfl

theorem walk (ha oa aa : Option Addr) (hcap ocap acap : Nat) (hd op an : List Str) (m at_ k : Int) (w : World)
    (h1 : StrsAt w ha hd) (h2 : StrsAt w oa op) (h3 : StrsAt w aa an)
    (x1 : hd.length ≤ 9223372036854775807) (x2 : op.length ≤ 9223372036854775807) (x3 : an.length ≤ 9223372036854775807)
    (wm : -9223372036854775808 ≤ m ∧ m ≤ 9223372036854775807) :
    Calls Try.prog 5 #[.slice ha hd.length hcap, .slice oa op.length ocap, .slice aa an.length acap, .int .i64 m, .int .i64 at_, .int .i64 k] w (TruePost w) := by
  by_cases hk : k < 0
  · exact accepts_neg ha oa aa hcap ocap acap hd op an m at_ k w h1 h2 h3 x1 x2 x3 wm hk
  · exact accepts_pos ha oa aa hcap ocap acap hd op an m at_ k w h1 h2 h3 x1 x2 x3 wm (by omega)

set_option maxRecDepth 100000 in
theorem lifted (os : Os) (started : os.Started) (H : Type) (enc : TypeId × Value → H) :
    ReturnsInHanded {} Try.checked os 5 .any (Rows.fnPlacesAcceptsHeaderThenOptionalSpec.pre6 enc Try.prog Try.f5 Rows.fnPlacesAcceptsHeaderThenOptionalRow.domain false) (Rows.fnPlacesAcceptsHeaderThenOptionalSpec.post enc Try.prog Try.f5 false true false false) := by
  refine returnsInHanded_of_change (C := Try.checked) own started (by kernel_rfl) Try.func5
    (ChangeSpec.witness6 (enc := enc) (C := Try.checked) false ⟨#[], #[.slice none 0 0, .slice none 0 0, .slice none 0 0, .int .i64 0, .int .i64 0, .int .i64 0], []⟩ 8 (by kernel_rfl) (by kernel_rfl) (by kernel_rfl) (by kernel_rfl)) ?_
  intro W base args ds gs before hval0 hW _ _
  have hval : ∀ (j : Nat) t v, Try.f5.params[j]? = some t → args[j]? = some v → Value.okWide Try.prog W .any base t v := hval0
  have hW' := hW
  obtain ⟨p, q, hA0, hV, rfl, _, _⟩ := hW
  have hA : DataW.TrodAll enc Try.prog W 0 (fun _ => true) true Try.f5.params.toList args.toList ds p := hA0
  rw [Try.params5] at hA hval
  obtain ⟨v0, vs0, d0, ds0, p0, q0, hargs, rfl, rfl, h0, r0⟩ := trodAll_cons hA
  obtain ⟨v1, vs1, d1, ds1, p1, q1, rfl, rfl, rfl, h1, r1⟩ := trodAll_cons r0
  obtain ⟨v2, vs2, d2, ds2, p2, q2, rfl, rfl, rfl, h2, r2⟩ := trodAll_cons r1
  obtain ⟨v3, vs3, d3, ds3, p3, q3, rfl, rfl, rfl, h3, r3⟩ := trodAll_cons r2
  obtain ⟨v4, vs4, d4, ds4, p4, q4, rfl, rfl, rfl, h4, r4⟩ := trodAll_cons r3
  obtain ⟨v5, vs5, d5, ds5, p5, q5, rfl, rfl, rfl, h5, r5⟩ := trodAll_cons r4
  obtain ⟨rfl, rfl, rfl⟩ := trodAll_nil r5
  obtain rfl : args = #[v0, v1, v2, v3, v4, v5] := by cases args; simp_all
  obtain ⟨rfl, rfl⟩ := trodVars_none hV
  obtain ⟨a0, len0, cap0, rfl⟩ := okWide_slice Try.underlying22 (hval 0 22 v0 rfl rfl)
  have k0 := h0
  have lt0 : ∀ x ∈ p0, x.block < W.heap.size := by obtain ⟨m, hm⟩ := k0; exact DataW.trod_lt m _ _ _ hm
  obtain ⟨f0, hf0⟩ := h0
  obtain ⟨a0', s0, c0', e0, i0, b0⟩ := strs_view hf0
  simp [Value.cells] at e0
  obtain ⟨rfl, rfl, rfl⟩ := e0
  obtain ⟨a1, len1, cap1, rfl⟩ := okWide_slice Try.underlying22 (hval 1 22 v1 rfl rfl)
  have k1 := h1
  have lt1 : ∀ x ∈ p1, x.block < W.heap.size := by obtain ⟨m, hm⟩ := k1; exact DataW.trod_lt m _ _ _ hm
  obtain ⟨f1, hf1⟩ := h1
  obtain ⟨a1', s1, c1', e1, i1, b1⟩ := strs_view hf1
  simp [Value.cells] at e1
  obtain ⟨rfl, rfl, rfl⟩ := e1
  obtain ⟨a2, len2, cap2, rfl⟩ := okWide_slice Try.underlying22 (hval 2 22 v2 rfl rfl)
  have k2 := h2
  have lt2 : ∀ x ∈ p2, x.block < W.heap.size := by obtain ⟨m, hm⟩ := k2; exact DataW.trod_lt m _ _ _ hm
  obtain ⟨f2, hf2⟩ := h2
  obtain ⟨a2', s2, c2', e2, i2, b2⟩ := strs_view hf2
  simp [Value.cells] at e2
  obtain ⟨rfl, rfl, rfl⟩ := e2
  obtain ⟨n3, rfl, rfl, rfl, w3⟩ := open_int Try.underlying3 (hval 3 3 v3 rfl rfl) h3
  obtain ⟨n4, rfl, rfl, rfl, w4⟩ := open_int Try.underlying3 (hval 4 3 v4 rfl rfl) h4
  obtain ⟨n5, rfl, rfl, rfl, w5⟩ := open_int Try.underlying3 (hval 5 3 v5 rfl rfl) h5
  clear hA0 hval0
  refine (walk a0 a1 a2 cap0 cap1 cap2 s0 s1 s2 n3 n4 n5 W i0 i1 i2 b0 b1 b2 (bounds_i64 w3)).mono fun e W' ⟨he, bel⟩ => ?_
  subst he
  exact ⟨_, rfl, _, _, _, [], _, [], hW', trodAll_mk1 (shut_bool Try.underlying4 _), (trodAll_cons_mk (Below.trod laidOut (by kernel_rfl) (of_decide_eq_true (by kernel_rfl)) k0 bel lt0) (trodAll_cons_mk (Below.trod laidOut (by kernel_rfl) (of_decide_eq_true (by kernel_rfl)) k1 bel lt1) (trodAll_cons_mk (Below.trod laidOut (by kernel_rfl) (of_decide_eq_true (by kernel_rfl)) k2 bel lt2) (trodAll_cons_mk (shut_int Try.underlying3 w3) (trodAll_cons_mk (shut_int Try.underlying3 w4) (trodAll_cons_mk (shut_int Try.underlying3 w5) trodAll_mk0)))))),
    rfl, bel.frame _, fun h => by cases h⟩

theorem over : Rows.fnPlacesAcceptsHeaderThenOptionalRow.holds Try.pinned (OpenSpec.ofChange Rows.fnPlacesAcceptsHeaderThenOptionalSpec) :=
  OpenClaim.holds_of_wide 5 Try.f5 rfl rfl rfl rfl rfl rfl rfl ⟨rfl, rfl, rfl, rfl, rfl⟩ rfl rfl rfl rfl rfl (by kernel_rfl) Try.func5 (by kernel_rfl)
    (of_decide_eq_true (by kernel_rfl)) (by unfold Func.isWrapper; first | (rw [if_pos (by decide +kernel)]; kernel_rfl) | (rw [if_neg (by decide +kernel)]; exact ⟨rfl, rfl⟩))
    (fun os started H enc _ => lifted os started H enc)

theorem proved : Rows.FnPlacesAcceptsHeaderThenOptionalSaid := over
end Go.Proofs.Qxb6603151a.fnPlacesAcceptsHeaderThenOptional
