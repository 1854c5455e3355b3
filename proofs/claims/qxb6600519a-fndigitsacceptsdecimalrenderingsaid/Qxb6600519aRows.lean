/-
  No cell of these rows narrows 'for every input' (looked for: loops, veiled, ifaces, maps, wideKeys, modest, calm, conditions, laid).
  DERIVED. THE GIVEN ROWS OF THIS SEAT. 5 by the template 'for every input the law returns true; each argument reads behind the call as it read before'; 0 by the template 'total and deterministic' (their statements: Qxb6600519aTotals.lean).
  GIVEN WITH THE SEED: the statements are not yours to turn. If you find one false, say at which input.
  Laid BY PROGRAM, IN A SANDBOX (cutbox-rows.mjs): the forced cells as the released guide's own fill.sh prints them over the translation fdd90ba84e68b3b7… (all of the seat's roots in one cut). By AI agents, Wed Nov 11 2026. No macro, syntax, notation, axiom, sorry.
-/
import Derived.Test.Qxb6600519aChecked
import GoSem.Claim
import GoSem.ClaimJoined
import GoSem.ClaimMapViews
import Derived.JoinedTies
import Derived.KernelRfl
namespace Go.Proofs.Qxb6600519a
/- THE CELL 'sum', in the pinned program and in every row, IS THE sha256 OF THE DUMP (.gsa) THAT Qxb6600519aProg.lean LOADS. Nothing in Lean hashes anything: it is a label: what it is worth is what the hold of that sum in a sandbox is worth. -/
noncomputable def Try.pinned : Pinned := { name := "qxb6600519a", sum := "fdd90ba84e68b3b77d466aed5cda9a8d0ef5bd66cfdf8ec352c5aa045c33ad0c", checked := Try.checked }
namespace Rows
def none {H : Type} : Left H := { results := [], args := [] }

/-- 'zzlaws_internal_decimal_b1.FnGroupMatchesRightChunkModel': WHATEVER THE INPUT: true; the input reads as it did. -/
def fnGroupMatchesRightChunkModelSpec : ChangeSpec := { name := "fnGroupMatchesRightChunkModel", fn := fun _ => fun
  | [d] => { results := [.lit (.bool true)], args := [d] }
  | _ => none }
def fnGroupMatchesRightChunkModelRow : OpenClaim := { program := "qxb6600519a", sum := "fdd90ba84e68b3b77d466aed5cda9a8d0ef5bd66cfdf8ec352c5aa045c33ad0c", func := "example.com/vestline/vestline/zzlaws_internal_decimal_b1.FnGroupMatchesRightChunkModel", spec := "fnGroupMatchesRightChunkModel", inPlace := ["internal/bytealg.IndexByteString", "internal/bytealg.IndexString", "internal/abi.NoEscape"], named := ["internal/bytealg.MaxLen"], apart := false }
def FnGroupMatchesRightChunkModelSaid : Prop := fnGroupMatchesRightChunkModelRow.holds Try.pinned (OpenSpec.ofChange fnGroupMatchesRightChunkModelSpec)

/-- ITS FALSE NEIGHBOUR: 'it returns false'. Refute it at one input. -/
def fnGroupMatchesRightChunkModelWrong : ChangeSpec := { name := "fnGroupMatchesRightChunkModel", fn := fun _ => fun
  | [d] => { results := [.lit (.bool false)], args := [d] }
  | _ => none }
def FnGroupMatchesRightChunkModelWrongFalsely : Prop := fnGroupMatchesRightChunkModelRow.holds Try.pinned (OpenSpec.ofChange fnGroupMatchesRightChunkModelWrong)

/-- 'zzlaws_internal_decimal_b1.FnGroupStripCommasRoundTrip': WHATEVER THE INPUT: true; the input reads as it did. -/
def fnGroupStripCommasRoundTripSpec : ChangeSpec := { name := "fnGroupStripCommasRoundTrip", fn := fun _ => fun
  | [d] => { results := [.lit (.bool true)], args := [d] }
  | _ => none }
def fnGroupStripCommasRoundTripRow : OpenClaim := { program := "qxb6600519a", sum := "fdd90ba84e68b3b77d466aed5cda9a8d0ef5bd66cfdf8ec352c5aa045c33ad0c", func := "example.com/vestline/vestline/zzlaws_internal_decimal_b1.FnGroupStripCommasRoundTrip", spec := "fnGroupStripCommasRoundTrip", inPlace := ["internal/bytealg.IndexByteString", "internal/bytealg.IndexString", "internal/abi.NoEscape"], named := ["internal/bytealg.MaxLen"], apart := false }
def FnGroupStripCommasRoundTripSaid : Prop := fnGroupStripCommasRoundTripRow.holds Try.pinned (OpenSpec.ofChange fnGroupStripCommasRoundTripSpec)

/-- ITS FALSE NEIGHBOUR: 'it returns false'. Refute it at one input. -/
def fnGroupStripCommasRoundTripWrong : ChangeSpec := { name := "fnGroupStripCommasRoundTrip", fn := fun _ => fun
  | [d] => { results := [.lit (.bool false)], args := [d] }
  | _ => none }
def FnGroupStripCommasRoundTripWrongFalsely : Prop := fnGroupStripCommasRoundTripRow.holds Try.pinned (OpenSpec.ofChange fnGroupStripCommasRoundTripWrong)

/-- 'zzlaws_internal_decimal_b1.FnGroupFractionPassesThrough': WHATEVER THE INPUT: true; the input reads as it did. -/
def fnGroupFractionPassesThroughSpec : ChangeSpec := { name := "fnGroupFractionPassesThrough", fn := fun _ => fun
  | [d1, d2] => { results := [.lit (.bool true)], args := [d1, d2] }
  | _ => none }
def fnGroupFractionPassesThroughRow : OpenClaim := { program := "qxb6600519a", sum := "fdd90ba84e68b3b77d466aed5cda9a8d0ef5bd66cfdf8ec352c5aa045c33ad0c", func := "example.com/vestline/vestline/zzlaws_internal_decimal_b1.FnGroupFractionPassesThrough", spec := "fnGroupFractionPassesThrough", inPlace := ["internal/bytealg.IndexByteString", "internal/bytealg.IndexString", "internal/abi.NoEscape"], named := ["internal/bytealg.MaxLen"], apart := false }
def FnGroupFractionPassesThroughSaid : Prop := fnGroupFractionPassesThroughRow.holds Try.pinned (OpenSpec.ofChange fnGroupFractionPassesThroughSpec)

/-- ITS FALSE NEIGHBOUR: 'it returns false'. Refute it at one input. -/
def fnGroupFractionPassesThroughWrong : ChangeSpec := { name := "fnGroupFractionPassesThrough", fn := fun _ => fun
  | [d1, d2] => { results := [.lit (.bool false)], args := [d1, d2] }
  | _ => none }
def FnGroupFractionPassesThroughWrongFalsely : Prop := fnGroupFractionPassesThroughRow.holds Try.pinned (OpenSpec.ofChange fnGroupFractionPassesThroughWrong)

/-- 'zzlaws_internal_decimal_b1.FnDigitsConcatSplit': WHATEVER THE INPUT: true; the input reads as it did. -/
def fnDigitsConcatSplitSpec : ChangeSpec := { name := "fnDigitsConcatSplit", fn := fun _ => fun
  | [d1, d2] => { results := [.lit (.bool true)], args := [d1, d2] }
  | _ => none }
def fnDigitsConcatSplitRow : OpenClaim := { program := "qxb6600519a", sum := "fdd90ba84e68b3b77d466aed5cda9a8d0ef5bd66cfdf8ec352c5aa045c33ad0c", func := "example.com/vestline/vestline/zzlaws_internal_decimal_b1.FnDigitsConcatSplit", spec := "fnDigitsConcatSplit", apart := false }
def FnDigitsConcatSplitSaid : Prop := fnDigitsConcatSplitRow.holds Try.pinned (OpenSpec.ofChange fnDigitsConcatSplitSpec)

/-- ITS FALSE NEIGHBOUR: 'it returns false'. Refute it at one input. -/
def fnDigitsConcatSplitWrong : ChangeSpec := { name := "fnDigitsConcatSplit", fn := fun _ => fun
  | [d1, d2] => { results := [.lit (.bool false)], args := [d1, d2] }
  | _ => none }
def FnDigitsConcatSplitWrongFalsely : Prop := fnDigitsConcatSplitRow.holds Try.pinned (OpenSpec.ofChange fnDigitsConcatSplitWrong)

/-- 'zzlaws_internal_decimal_b1.FnDigitsAcceptsDecimalRendering': WHATEVER THE INPUT: true; the input reads as it did. -/
def fnDigitsAcceptsDecimalRenderingSpec : ChangeSpec := { name := "fnDigitsAcceptsDecimalRendering", fn := fun _ => fun
  | [d] => { results := [.lit (.bool true)], args := [d] }
  | _ => none }
def fnDigitsAcceptsDecimalRenderingRow : OpenClaim := { program := "qxb6600519a", sum := "fdd90ba84e68b3b77d466aed5cda9a8d0ef5bd66cfdf8ec352c5aa045c33ad0c", func := "example.com/vestline/vestline/zzlaws_internal_decimal_b1.FnDigitsAcceptsDecimalRendering", spec := "fnDigitsAcceptsDecimalRendering", apart := false }
def FnDigitsAcceptsDecimalRenderingSaid : Prop := fnDigitsAcceptsDecimalRenderingRow.holds Try.pinned (OpenSpec.ofChange fnDigitsAcceptsDecimalRenderingSpec)

/-- ITS FALSE NEIGHBOUR: 'it returns false'. Refute it at one input. -/
def fnDigitsAcceptsDecimalRenderingWrong : ChangeSpec := { name := "fnDigitsAcceptsDecimalRendering", fn := fun _ => fun
  | [d] => { results := [.lit (.bool false)], args := [d] }
  | _ => none }
def FnDigitsAcceptsDecimalRenderingWrongFalsely : Prop := fnDigitsAcceptsDecimalRenderingRow.holds Try.pinned (OpenSpec.ofChange fnDigitsAcceptsDecimalRenderingWrong)

end Rows
end Go.Proofs.Qxb6600519a
