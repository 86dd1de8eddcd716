/-
  No cell of these rows narrows 'for every input' (looked for: loops, veiled, ifaces, maps, wideKeys, modest, calm, conditions, laid).
  DERIVED. THE GIVEN ROWS OF THIS SEAT. 6 by the template 'for every input the law returns true; each argument reads behind the call as it read before'; 0 by the template 'total and deterministic' (their statements: Qxb6603436aTotals.lean).
  GIVEN WITH THE SEED: the statements are not yours to turn. If you find one false, say at which input.
  Laid BY PROGRAM, IN A SANDBOX (cutbox-rows.mjs): the forced cells as the released guide's own fill.sh prints them over the translation 8b3d4166b2bf94ac… (all of the seat's roots in one cut). By AI agents, Wed Nov 11 2026. No macro, syntax, notation, axiom, sorry.
-/
import Derived.Test.Qxb6603436aChecked
import GoSem.Claim
import GoSem.ClaimJoined
import GoSem.ClaimMapViews
import Derived.JoinedTies
import Derived.KernelRfl
namespace Go.Proofs.Qxb6603436a
/- THE CELL 'sum', in the pinned program and in every row, IS THE sha256 OF THE DUMP (.gsa) THAT Qxb6603436aProg.lean LOADS. Nothing in Lean hashes anything: it is a label: what it is worth is what the hold of that sum in a sandbox is worth. -/
noncomputable def Try.pinned : Pinned := { name := "qxb6603436a", sum := "8b3d4166b2bf94ac5581e9a30497a7200618c64645df49ce9300f2040e02a7af", checked := Try.checked }
namespace Rows
def none {H : Type} : Left H := { results := [], args := [] }

/-- 'zzlaws_root_b1.FnNumberMatchesDigitModel': WHATEVER THE INPUT: true; the input reads as it did. -/
def fnNumberMatchesDigitModelSpec : ChangeSpec := { name := "fnNumberMatchesDigitModel", fn := fun _ => fun
  | [d] => { results := [.lit (.bool true)], args := [d] }
  | _ => none }
def fnNumberMatchesDigitModelRow : OpenClaim := { program := "qxb6603436a", sum := "8b3d4166b2bf94ac5581e9a30497a7200618c64645df49ce9300f2040e02a7af", func := "example.com/sevenfield/sevenfield/zzlaws_root_b1.FnNumberMatchesDigitModel", spec := "fnNumberMatchesDigitModel", apart := false }
def FnNumberMatchesDigitModelSaid : Prop := fnNumberMatchesDigitModelRow.holds Try.pinned (OpenSpec.ofChange fnNumberMatchesDigitModelSpec)

/-- ITS FALSE NEIGHBOUR: 'it returns false'. Refute it at one input. -/
def fnNumberMatchesDigitModelWrong : ChangeSpec := { name := "fnNumberMatchesDigitModel", fn := fun _ => fun
  | [d] => { results := [.lit (.bool false)], args := [d] }
  | _ => none }
def FnNumberMatchesDigitModelWrongFalsely : Prop := fnNumberMatchesDigitModelRow.holds Try.pinned (OpenSpec.ofChange fnNumberMatchesDigitModelWrong)

/-- 'zzlaws_root_b1.FnNumberReadsWrittenInteger': WHATEVER THE INPUT: true; the input reads as it did. -/
def fnNumberReadsWrittenIntegerSpec : ChangeSpec := { name := "fnNumberReadsWrittenInteger", fn := fun _ => fun
  | [d1, d2] => { results := [.lit (.bool true)], args := [d1, d2] }
  | _ => none }
def fnNumberReadsWrittenIntegerRow : OpenClaim := { program := "qxb6603436a", sum := "8b3d4166b2bf94ac5581e9a30497a7200618c64645df49ce9300f2040e02a7af", func := "example.com/sevenfield/sevenfield/zzlaws_root_b1.FnNumberReadsWrittenInteger", spec := "fnNumberReadsWrittenInteger", apart := false }
def FnNumberReadsWrittenIntegerSaid : Prop := fnNumberReadsWrittenIntegerRow.holds Try.pinned (OpenSpec.ofChange fnNumberReadsWrittenIntegerSpec)

/-- ITS FALSE NEIGHBOUR: 'it returns false'. Refute it at one input. -/
def fnNumberReadsWrittenIntegerWrong : ChangeSpec := { name := "fnNumberReadsWrittenInteger", fn := fun _ => fun
  | [d1, d2] => { results := [.lit (.bool false)], args := [d1, d2] }
  | _ => none }
def FnNumberReadsWrittenIntegerWrongFalsely : Prop := fnNumberReadsWrittenIntegerRow.holds Try.pinned (OpenSpec.ofChange fnNumberReadsWrittenIntegerWrong)

/-- 'zzlaws_root_b1.FnAddRangeSetsExactlyTheSpan': WHATEVER THE INPUT: true; the input reads as it did. -/
def fnAddRangeSetsExactlyTheSpanSpec : ChangeSpec := { name := "fnAddRangeSetsExactlyTheSpan", fn := fun _ => fun
  | [d1, d2, d3] => { results := [.lit (.bool true)], args := [d1, d2, d3] }
  | _ => none }
def fnAddRangeSetsExactlyTheSpanRow : OpenClaim := { program := "qxb6603436a", sum := "8b3d4166b2bf94ac5581e9a30497a7200618c64645df49ce9300f2040e02a7af", func := "example.com/sevenfield/sevenfield/zzlaws_root_b1.FnAddRangeSetsExactlyTheSpan", spec := "fnAddRangeSetsExactlyTheSpan", apart := false }
def FnAddRangeSetsExactlyTheSpanSaid : Prop := fnAddRangeSetsExactlyTheSpanRow.holds Try.pinned (OpenSpec.ofChange fnAddRangeSetsExactlyTheSpanSpec)

/-- ITS FALSE NEIGHBOUR: 'it returns false'. Refute it at one input. -/
def fnAddRangeSetsExactlyTheSpanWrong : ChangeSpec := { name := "fnAddRangeSetsExactlyTheSpan", fn := fun _ => fun
  | [d1, d2, d3] => { results := [.lit (.bool false)], args := [d1, d2, d3] }
  | _ => none }
def FnAddRangeSetsExactlyTheSpanWrongFalsely : Prop := fnAddRangeSetsExactlyTheSpanRow.holds Try.pinned (OpenSpec.ofChange fnAddRangeSetsExactlyTheSpanWrong)

/-- 'zzlaws_root_b1.FnAddRangeSplitsAtAnyPoint': WHATEVER THE INPUT: true; the input reads as it did. -/
def fnAddRangeSplitsAtAnyPointSpec : ChangeSpec := { name := "fnAddRangeSplitsAtAnyPoint", fn := fun _ => fun
  | [d1, d2, d3, d4] => { results := [.lit (.bool true)], args := [d1, d2, d3, d4] }
  | _ => none }
def fnAddRangeSplitsAtAnyPointRow : OpenClaim := { program := "qxb6603436a", sum := "8b3d4166b2bf94ac5581e9a30497a7200618c64645df49ce9300f2040e02a7af", func := "example.com/sevenfield/sevenfield/zzlaws_root_b1.FnAddRangeSplitsAtAnyPoint", spec := "fnAddRangeSplitsAtAnyPoint", apart := false }
def FnAddRangeSplitsAtAnyPointSaid : Prop := fnAddRangeSplitsAtAnyPointRow.holds Try.pinned (OpenSpec.ofChange fnAddRangeSplitsAtAnyPointSpec)

/-- ITS FALSE NEIGHBOUR: 'it returns false'. Refute it at one input. -/
def fnAddRangeSplitsAtAnyPointWrong : ChangeSpec := { name := "fnAddRangeSplitsAtAnyPoint", fn := fun _ => fun
  | [d1, d2, d3, d4] => { results := [.lit (.bool false)], args := [d1, d2, d3, d4] }
  | _ => none }
def FnAddRangeSplitsAtAnyPointWrongFalsely : Prop := fnAddRangeSplitsAtAnyPointRow.holds Try.pinned (OpenSpec.ofChange fnAddRangeSplitsAtAnyPointWrong)

/-- 'zzlaws_root_b1.FnAddRangeOrderFreeAndIdempotent': WHATEVER THE INPUT: true; the input reads as it did. -/
def fnAddRangeOrderFreeAndIdempotentSpec : ChangeSpec := { name := "fnAddRangeOrderFreeAndIdempotent", fn := fun _ => fun
  | [d1, d2, d3, d4, d5] => { results := [.lit (.bool true)], args := [d1, d2, d3, d4, d5] }
  | _ => none }
def fnAddRangeOrderFreeAndIdempotentRow : OpenClaim := { program := "qxb6603436a", sum := "8b3d4166b2bf94ac5581e9a30497a7200618c64645df49ce9300f2040e02a7af", func := "example.com/sevenfield/sevenfield/zzlaws_root_b1.FnAddRangeOrderFreeAndIdempotent", spec := "fnAddRangeOrderFreeAndIdempotent", apart := false }
def FnAddRangeOrderFreeAndIdempotentSaid : Prop := fnAddRangeOrderFreeAndIdempotentRow.holds Try.pinned (OpenSpec.ofChange fnAddRangeOrderFreeAndIdempotentSpec)

/-- ITS FALSE NEIGHBOUR: 'it returns false'. Refute it at one input. -/
def fnAddRangeOrderFreeAndIdempotentWrong : ChangeSpec := { name := "fnAddRangeOrderFreeAndIdempotent", fn := fun _ => fun
  | [d1, d2, d3, d4, d5] => { results := [.lit (.bool false)], args := [d1, d2, d3, d4, d5] }
  | _ => none }
def FnAddRangeOrderFreeAndIdempotentWrongFalsely : Prop := fnAddRangeOrderFreeAndIdempotentRow.holds Try.pinned (OpenSpec.ofChange fnAddRangeOrderFreeAndIdempotentWrong)

/-- 'zzlaws_root_b1.FnRestrictsDialectsDifferOnlyOnStarLed': WHATEVER THE INPUT: true; the input reads as it did. -/
def fnRestrictsDialectsDifferOnlyOnStarLedSpec : ChangeSpec := { name := "fnRestrictsDialectsDifferOnlyOnStarLed", fn := fun _ => fun
  | [d] => { results := [.lit (.bool true)], args := [d] }
  | _ => none }
def fnRestrictsDialectsDifferOnlyOnStarLedRow : OpenClaim := { program := "qxb6603436a", sum := "8b3d4166b2bf94ac5581e9a30497a7200618c64645df49ce9300f2040e02a7af", func := "example.com/sevenfield/sevenfield/zzlaws_root_b1.FnRestrictsDialectsDifferOnlyOnStarLed", spec := "fnRestrictsDialectsDifferOnlyOnStarLed", apart := false }
def FnRestrictsDialectsDifferOnlyOnStarLedSaid : Prop := fnRestrictsDialectsDifferOnlyOnStarLedRow.holds Try.pinned (OpenSpec.ofChange fnRestrictsDialectsDifferOnlyOnStarLedSpec)

/-- ITS FALSE NEIGHBOUR: 'it returns false'. Refute it at one input. -/
def fnRestrictsDialectsDifferOnlyOnStarLedWrong : ChangeSpec := { name := "fnRestrictsDialectsDifferOnlyOnStarLed", fn := fun _ => fun
  | [d] => { results := [.lit (.bool false)], args := [d] }
  | _ => none }
def FnRestrictsDialectsDifferOnlyOnStarLedWrongFalsely : Prop := fnRestrictsDialectsDifferOnlyOnStarLedRow.holds Try.pinned (OpenSpec.ofChange fnRestrictsDialectsDifferOnlyOnStarLedWrong)

end Rows
end Go.Proofs.Qxb6603436a
