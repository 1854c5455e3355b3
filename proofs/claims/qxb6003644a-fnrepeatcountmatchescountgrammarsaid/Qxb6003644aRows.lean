/-
  No cell of these rows narrows 'for every input' (looked for: loops, veiled, ifaces, maps, wideKeys, modest, calm, conditions, laid).
  DERIVED. THE GIVEN ROWS OF THIS SEAT. 5 by the template 'for every input the law returns true; each argument reads behind the call as it read before'; 0 by the template 'total and deterministic' (their statements: Qxb6003644aTotals.lean).
  GIVEN WITH THE SEED: the statements are not yours to turn. If you find one false, say at which input.
  Laid BY PROGRAM, IN A SANDBOX (cutbox-rows.mjs): the forced cells as the released guide's own fill.sh prints them over the translation 009e3361fbb2a37b… (all of the seat's roots in one cut). By AI agents, Wed Nov 11 2026. No macro, syntax, notation, axiom, sorry.
-/
import Derived.Test.Qxb6003644aChecked
import GoSem.Claim
import GoSem.ClaimJoined
import GoSem.ClaimMapViews
import Derived.JoinedTies
import Derived.KernelRfl
namespace Go.Proofs.Qxb6003644a
/- THE CELL 'sum', in the pinned program and in every row, IS THE sha256 OF THE DUMP (.gsa) THAT Qxb6003644aProg.lean LOADS. Nothing in Lean hashes anything: it is a label: what it is worth is what the hold of that sum in a sandbox is worth. -/
noncomputable def Try.pinned : Pinned := { name := "qxb6003644a", sum := "009e3361fbb2a37bee60e41c91b9f6db4c82b60840a634e1870cd4baf119779f", checked := Try.checked }
namespace Rows
def none {H : Type} : Left H := { results := [], args := [] }

/-- 'zzlaws_root_b1.FnRepeatCountMatchesCountGrammar': WHATEVER THE INPUT: true; the input reads as it did. -/
def fnRepeatCountMatchesCountGrammarSpec : ChangeSpec := { name := "fnRepeatCountMatchesCountGrammar", fn := fun _ => fun
  | [d] => { results := [.lit (.bool true)], args := [d] }
  | _ => none }
def fnRepeatCountMatchesCountGrammarRow : OpenClaim := { program := "qxb6003644a", sum := "009e3361fbb2a37bee60e41c91b9f6db4c82b60840a634e1870cd4baf119779f", func := "example.com/bowerbird/bowerbird/zzlaws_root_b1.FnRepeatCountMatchesCountGrammar", spec := "fnRepeatCountMatchesCountGrammar", unfollowed := true, recurses := true, apart := false }
def FnRepeatCountMatchesCountGrammarSaid : Prop := fnRepeatCountMatchesCountGrammarRow.holds Try.pinned (OpenSpec.ofChange fnRepeatCountMatchesCountGrammarSpec)

/-- ITS FALSE NEIGHBOUR: 'it returns false'. Refute it at one input. -/
def fnRepeatCountMatchesCountGrammarWrong : ChangeSpec := { name := "fnRepeatCountMatchesCountGrammar", fn := fun _ => fun
  | [d] => { results := [.lit (.bool false)], args := [d] }
  | _ => none }
def FnRepeatCountMatchesCountGrammarWrongFalsely : Prop := fnRepeatCountMatchesCountGrammarRow.holds Try.pinned (OpenSpec.ofChange fnRepeatCountMatchesCountGrammarWrong)

/-- 'zzlaws_root_b1.FnRepeatCountIgnoresWhatFollows': WHATEVER THE INPUT: true; the input reads as it did. -/
def fnRepeatCountIgnoresWhatFollowsSpec : ChangeSpec := { name := "fnRepeatCountIgnoresWhatFollows", fn := fun _ => fun
  | [d1, d2] => { results := [.lit (.bool true)], args := [d1, d2] }
  | _ => none }
def fnRepeatCountIgnoresWhatFollowsRow : OpenClaim := { program := "qxb6003644a", sum := "009e3361fbb2a37bee60e41c91b9f6db4c82b60840a634e1870cd4baf119779f", func := "example.com/bowerbird/bowerbird/zzlaws_root_b1.FnRepeatCountIgnoresWhatFollows", spec := "fnRepeatCountIgnoresWhatFollows", unfollowed := true, recurses := true, apart := false }
def FnRepeatCountIgnoresWhatFollowsSaid : Prop := fnRepeatCountIgnoresWhatFollowsRow.holds Try.pinned (OpenSpec.ofChange fnRepeatCountIgnoresWhatFollowsSpec)

/-- ITS FALSE NEIGHBOUR: 'it returns false'. Refute it at one input. -/
def fnRepeatCountIgnoresWhatFollowsWrong : ChangeSpec := { name := "fnRepeatCountIgnoresWhatFollows", fn := fun _ => fun
  | [d1, d2] => { results := [.lit (.bool false)], args := [d1, d2] }
  | _ => none }
def FnRepeatCountIgnoresWhatFollowsWrongFalsely : Prop := fnRepeatCountIgnoresWhatFollowsRow.holds Try.pinned (OpenSpec.ofChange fnRepeatCountIgnoresWhatFollowsWrong)

/-- 'zzlaws_root_b1.FnRepeatCountZeroPaddedIsFlagged': WHATEVER THE INPUT: true; the input reads as it did. -/
def fnRepeatCountZeroPaddedIsFlaggedSpec : ChangeSpec := { name := "fnRepeatCountZeroPaddedIsFlagged", fn := fun _ => fun
  | [d] => { results := [.lit (.bool true)], args := [d] }
  | _ => none }
def fnRepeatCountZeroPaddedIsFlaggedRow : OpenClaim := { program := "qxb6003644a", sum := "009e3361fbb2a37bee60e41c91b9f6db4c82b60840a634e1870cd4baf119779f", func := "example.com/bowerbird/bowerbird/zzlaws_root_b1.FnRepeatCountZeroPaddedIsFlagged", spec := "fnRepeatCountZeroPaddedIsFlagged", unfollowed := true, recurses := true, apart := false }
def FnRepeatCountZeroPaddedIsFlaggedSaid : Prop := fnRepeatCountZeroPaddedIsFlaggedRow.holds Try.pinned (OpenSpec.ofChange fnRepeatCountZeroPaddedIsFlaggedSpec)

/-- ITS FALSE NEIGHBOUR: 'it returns false'. Refute it at one input. -/
def fnRepeatCountZeroPaddedIsFlaggedWrong : ChangeSpec := { name := "fnRepeatCountZeroPaddedIsFlagged", fn := fun _ => fun
  | [d] => { results := [.lit (.bool false)], args := [d] }
  | _ => none }
def FnRepeatCountZeroPaddedIsFlaggedWrongFalsely : Prop := fnRepeatCountZeroPaddedIsFlaggedRow.holds Try.pinned (OpenSpec.ofChange fnRepeatCountZeroPaddedIsFlaggedWrong)

/-- 'zzlaws_root_b1.FnDialectRepeatStandsOnItsOwnText': WHATEVER THE INPUT: true; the input reads as it did. -/
def fnDialectRepeatStandsOnItsOwnTextSpec : ChangeSpec := { name := "fnDialectRepeatStandsOnItsOwnText", fn := fun _ => fun
  | [d1, d2, d3] => { results := [.lit (.bool true)], args := [d1, d2, d3] }
  | _ => none }
def fnDialectRepeatStandsOnItsOwnTextRow : OpenClaim := { program := "qxb6003644a", sum := "009e3361fbb2a37bee60e41c91b9f6db4c82b60840a634e1870cd4baf119779f", func := "example.com/bowerbird/bowerbird/zzlaws_root_b1.FnDialectRepeatStandsOnItsOwnText", spec := "fnDialectRepeatStandsOnItsOwnText", unfollowed := true, recurses := true, apart := false }
def FnDialectRepeatStandsOnItsOwnTextSaid : Prop := fnDialectRepeatStandsOnItsOwnTextRow.holds Try.pinned (OpenSpec.ofChange fnDialectRepeatStandsOnItsOwnTextSpec)

/-- ITS FALSE NEIGHBOUR: 'it returns false'. Refute it at one input. -/
def fnDialectRepeatStandsOnItsOwnTextWrong : ChangeSpec := { name := "fnDialectRepeatStandsOnItsOwnText", fn := fun _ => fun
  | [d1, d2, d3] => { results := [.lit (.bool false)], args := [d1, d2, d3] }
  | _ => none }
def FnDialectRepeatStandsOnItsOwnTextWrongFalsely : Prop := fnDialectRepeatStandsOnItsOwnTextRow.holds Try.pinned (OpenSpec.ofChange fnDialectRepeatStandsOnItsOwnTextWrong)

/-- 'zzlaws_root_b1.FnDialectRepeatAgreesWithRepeatCount': WHATEVER THE INPUT: true; the input reads as it did. -/
def fnDialectRepeatAgreesWithRepeatCountSpec : ChangeSpec := { name := "fnDialectRepeatAgreesWithRepeatCount", fn := fun _ => fun
  | [d1, d2] => { results := [.lit (.bool true)], args := [d1, d2] }
  | _ => none }
def fnDialectRepeatAgreesWithRepeatCountRow : OpenClaim := { program := "qxb6003644a", sum := "009e3361fbb2a37bee60e41c91b9f6db4c82b60840a634e1870cd4baf119779f", func := "example.com/bowerbird/bowerbird/zzlaws_root_b1.FnDialectRepeatAgreesWithRepeatCount", spec := "fnDialectRepeatAgreesWithRepeatCount", unfollowed := true, recurses := true, apart := false }
def FnDialectRepeatAgreesWithRepeatCountSaid : Prop := fnDialectRepeatAgreesWithRepeatCountRow.holds Try.pinned (OpenSpec.ofChange fnDialectRepeatAgreesWithRepeatCountSpec)

/-- ITS FALSE NEIGHBOUR: 'it returns false'. Refute it at one input. -/
def fnDialectRepeatAgreesWithRepeatCountWrong : ChangeSpec := { name := "fnDialectRepeatAgreesWithRepeatCount", fn := fun _ => fun
  | [d1, d2] => { results := [.lit (.bool false)], args := [d1, d2] }
  | _ => none }
def FnDialectRepeatAgreesWithRepeatCountWrongFalsely : Prop := fnDialectRepeatAgreesWithRepeatCountRow.holds Try.pinned (OpenSpec.ofChange fnDialectRepeatAgreesWithRepeatCountWrong)

end Rows
end Go.Proofs.Qxb6003644a
