/-
  No cell of these rows narrows 'for every input' (looked for: loops, veiled, ifaces, maps, wideKeys, modest, calm, conditions, laid).
  DERIVED. THE GIVEN ROWS OF THIS SEAT. 3 by the template 'for every input the law returns true; each argument reads behind the call as it read before'; 0 by the template 'total and deterministic' (their statements: Qxb6003659aTotals.lean).
  GIVEN WITH THE SEED: the statements are not yours to turn. If you find one false, say at which input.
  Laid BY PROGRAM, IN A SANDBOX (cutbox-rows.mjs): the forced cells as the released guide's own fill.sh prints them over the translation 7fbd27166691b266… (all of the seat's roots in one cut). By AI agents, Wed Nov 11 2026. No macro, syntax, notation, axiom, sorry.
-/
import Derived.Test.Qxb6003659aChecked
import GoSem.Claim
import GoSem.ClaimJoined
import GoSem.ClaimMapViews
import Derived.JoinedTies
import Derived.KernelRfl
namespace Go.Proofs.Qxb6003659a
/- THE CELL 'sum', in the pinned program and in every row, IS THE sha256 OF THE DUMP (.gsa) THAT Qxb6003659aProg.lean LOADS. Nothing in Lean hashes anything: it is a label: what it is worth is what the hold of that sum in a sandbox is worth. -/
noncomputable def Try.pinned : Pinned := { name := "qxb6003659a", sum := "7fbd27166691b2668010d22eb16db952139ad3c4e55b465f05457529f2d0f43d", checked := Try.checked }
namespace Rows
def none {H : Type} : Left H := { results := [], args := [] }

/-- 'zzlaws_cmd_b1.FnAppendSpacesAdds': WHATEVER THE INPUT: true; the input reads as it did. -/
def fnAppendSpacesAddsSpec : ChangeSpec := { name := "fnAppendSpacesAdds", fn := fun _ => fun
  | [d1, d2, d3] => { results := [.lit (.bool true)], args := [d1, d2, d3] }
  | _ => none }
def fnAppendSpacesAddsRow : OpenClaim := { program := "qxb6003659a", sum := "7fbd27166691b2668010d22eb16db952139ad3c4e55b465f05457529f2d0f43d", func := "example.com/vestbook/vestbook/zzlaws_cmd_b1.FnAppendSpacesAdds", spec := "fnAppendSpacesAdds", apart := false }
def FnAppendSpacesAddsSaid : Prop := fnAppendSpacesAddsRow.holds Try.pinned (OpenSpec.ofChange fnAppendSpacesAddsSpec)

/-- ITS FALSE NEIGHBOUR: 'it returns false'. Refute it at one input. -/
def fnAppendSpacesAddsWrong : ChangeSpec := { name := "fnAppendSpacesAdds", fn := fun _ => fun
  | [d1, d2, d3] => { results := [.lit (.bool false)], args := [d1, d2, d3] }
  | _ => none }
def FnAppendSpacesAddsWrongFalsely : Prop := fnAppendSpacesAddsRow.holds Try.pinned (OpenSpec.ofChange fnAppendSpacesAddsWrong)

/-- 'zzlaws_cmd_b1.FnNewPageTableSpec': WHATEVER THE INPUT: true; the input reads as it did. -/
def fnNewPageTableSpecSpec : ChangeSpec := { name := "fnNewPageTableSpec", fn := fun _ => fun
  | [d1, d2, d3] => { results := [.lit (.bool true)], args := [d1, d2, d3] }
  | _ => none }
def fnNewPageTableSpecRow : OpenClaim := { program := "qxb6003659a", sum := "7fbd27166691b2668010d22eb16db952139ad3c4e55b465f05457529f2d0f43d", func := "example.com/vestbook/vestbook/zzlaws_cmd_b1.FnNewPageTableSpec", spec := "fnNewPageTableSpec", apart := false }
def FnNewPageTableSpecSaid : Prop := fnNewPageTableSpecRow.holds Try.pinned (OpenSpec.ofChange fnNewPageTableSpecSpec)

/-- ITS FALSE NEIGHBOUR: 'it returns false'. Refute it at one input. -/
def fnNewPageTableSpecWrong : ChangeSpec := { name := "fnNewPageTableSpec", fn := fun _ => fun
  | [d1, d2, d3] => { results := [.lit (.bool false)], args := [d1, d2, d3] }
  | _ => none }
def FnNewPageTableSpecWrongFalsely : Prop := fnNewPageTableSpecRow.holds Try.pinned (OpenSpec.ofChange fnNewPageTableSpecWrong)

/-- 'zzlaws_cmd_b1.FnNewPageTableRowsJoin': WHATEVER THE INPUT: true; the input reads as it did. -/
def fnNewPageTableRowsJoinSpec : ChangeSpec := { name := "fnNewPageTableRowsJoin", fn := fun _ => fun
  | [d1, d2, d3, d4] => { results := [.lit (.bool true)], args := [d1, d2, d3, d4] }
  | _ => none }
def fnNewPageTableRowsJoinRow : OpenClaim := { program := "qxb6003659a", sum := "7fbd27166691b2668010d22eb16db952139ad3c4e55b465f05457529f2d0f43d", func := "example.com/vestbook/vestbook/zzlaws_cmd_b1.FnNewPageTableRowsJoin", spec := "fnNewPageTableRowsJoin", apart := false }
def FnNewPageTableRowsJoinSaid : Prop := fnNewPageTableRowsJoinRow.holds Try.pinned (OpenSpec.ofChange fnNewPageTableRowsJoinSpec)

/-- ITS FALSE NEIGHBOUR: 'it returns false'. Refute it at one input. -/
def fnNewPageTableRowsJoinWrong : ChangeSpec := { name := "fnNewPageTableRowsJoin", fn := fun _ => fun
  | [d1, d2, d3, d4] => { results := [.lit (.bool false)], args := [d1, d2, d3, d4] }
  | _ => none }
def FnNewPageTableRowsJoinWrongFalsely : Prop := fnNewPageTableRowsJoinRow.holds Try.pinned (OpenSpec.ofChange fnNewPageTableRowsJoinWrong)

end Rows
end Go.Proofs.Qxb6003659a
