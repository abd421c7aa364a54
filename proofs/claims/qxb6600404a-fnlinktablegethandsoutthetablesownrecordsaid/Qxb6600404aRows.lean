/-
  No cell of these rows narrows 'for every input' (looked for: loops, veiled, ifaces, maps, wideKeys, modest, calm, conditions, laid).
  DERIVED. THE GIVEN ROWS OF THIS SEAT. 7 by the template 'for every input the law returns true; each argument reads behind the call as it read before'; 0 by the template 'total and deterministic' (their statements: Qxb6600404aTotals.lean).
  GIVEN WITH THE SEED: the statements are not yours to turn. If you find one false, say at which input.
  Laid BY PROGRAM, IN A SANDBOX (cutbox-rows.mjs): the forced cells as the released guide's own fill.sh prints them over the translation a50f8a0eba1c383f… (all of the seat's roots in one cut). By AI agents, Wed Nov 11 2026. No macro, syntax, notation, axiom, sorry.
-/
import Derived.Test.Qxb6600404aChecked
import GoSem.Claim
import GoSem.ClaimJoined
import GoSem.ClaimMapViews
import Derived.JoinedTies
import Derived.KernelRfl
namespace Go.Proofs.Qxb6600404a
/- THE CELL 'sum', in the pinned program and in every row, IS THE sha256 OF THE DUMP (.gsa) THAT Qxb6600404aProg.lean LOADS. Nothing in Lean hashes anything: it is a label: what it is worth is what the hold of that sum in a sandbox is worth. -/
noncomputable def Try.pinned : Pinned := { name := "qxb6600404a", sum := "a50f8a0eba1c383fe5f67f4c84436ed2a6ae40e2118ff3635a31b77d0f838dba", checked := Try.checked }
namespace Rows
def none {H : Type} : Left H := { results := [], args := [] }

/-- 'zzlaws_root_b1.FnRunSetAddRangeIsIntervalUnion': WHATEVER THE INPUT: true; the input reads as it did. -/
def fnRunSetAddRangeIsIntervalUnionSpec : ChangeSpec := { name := "fnRunSetAddRangeIsIntervalUnion", fn := fun _ => fun
  | [d1, d2, d3, d4, d5] => { results := [.lit (.bool true)], args := [d1, d2, d3, d4, d5] }
  | _ => none }
def fnRunSetAddRangeIsIntervalUnionRow : OpenClaim := { program := "qxb6600404a", sum := "a50f8a0eba1c383fe5f67f4c84436ed2a6ae40e2118ff3635a31b77d0f838dba", func := "example.com/hearsay/hearsay/zzlaws_root_b1.FnRunSetAddRangeIsIntervalUnion", spec := "fnRunSetAddRangeIsIntervalUnion", inPlace := ["slices.overlaps[example.com/hearsay/hearsay.run]"], unfollowed := true, recurses := true, apart := false }
def FnRunSetAddRangeIsIntervalUnionSaid : Prop := fnRunSetAddRangeIsIntervalUnionRow.holds Try.pinned (OpenSpec.ofChange fnRunSetAddRangeIsIntervalUnionSpec)

/-- ITS FALSE NEIGHBOUR: 'it returns false'. Refute it at one input. -/
def fnRunSetAddRangeIsIntervalUnionWrong : ChangeSpec := { name := "fnRunSetAddRangeIsIntervalUnion", fn := fun _ => fun
  | [d1, d2, d3, d4, d5] => { results := [.lit (.bool false)], args := [d1, d2, d3, d4, d5] }
  | _ => none }
def FnRunSetAddRangeIsIntervalUnionWrongFalsely : Prop := fnRunSetAddRangeIsIntervalUnionRow.holds Try.pinned (OpenSpec.ofChange fnRunSetAddRangeIsIntervalUnionWrong)

/-- 'zzlaws_root_b1.FnLinkTableDenseGetFindsExactlyThePeers': WHATEVER THE INPUT: true; the input reads as it did. -/
def fnLinkTableDenseGetFindsExactlyThePeersSpec : ChangeSpec := { name := "fnLinkTableDenseGetFindsExactlyThePeers", fn := fun _ => fun
  | [d1, d2, d3] => { results := [.lit (.bool true)], args := [d1, d2, d3] }
  | _ => none }
def fnLinkTableDenseGetFindsExactlyThePeersRow : OpenClaim := { program := "qxb6600404a", sum := "a50f8a0eba1c383fe5f67f4c84436ed2a6ae40e2118ff3635a31b77d0f838dba", func := "example.com/hearsay/hearsay/zzlaws_root_b1.FnLinkTableDenseGetFindsExactlyThePeers", spec := "fnLinkTableDenseGetFindsExactlyThePeers", unfollowed := true, recurses := true, apart := false }
def FnLinkTableDenseGetFindsExactlyThePeersSaid : Prop := fnLinkTableDenseGetFindsExactlyThePeersRow.holds Try.pinned (OpenSpec.ofChange fnLinkTableDenseGetFindsExactlyThePeersSpec)

/-- ITS FALSE NEIGHBOUR: 'it returns false'. Refute it at one input. -/
def fnLinkTableDenseGetFindsExactlyThePeersWrong : ChangeSpec := { name := "fnLinkTableDenseGetFindsExactlyThePeers", fn := fun _ => fun
  | [d1, d2, d3] => { results := [.lit (.bool false)], args := [d1, d2, d3] }
  | _ => none }
def FnLinkTableDenseGetFindsExactlyThePeersWrongFalsely : Prop := fnLinkTableDenseGetFindsExactlyThePeersRow.holds Try.pinned (OpenSpec.ofChange fnLinkTableDenseGetFindsExactlyThePeersWrong)

/-- 'zzlaws_root_b1.FnLinkTableDenseTakeDownDeletesJustThatLink': WHATEVER THE INPUT: true; the input reads as it did. -/
def fnLinkTableDenseTakeDownDeletesJustThatLinkSpec : ChangeSpec := { name := "fnLinkTableDenseTakeDownDeletesJustThatLink", fn := fun _ => fun
  | [d1, d2, d3] => { results := [.lit (.bool true)], args := [d1, d2, d3] }
  | _ => none }
def fnLinkTableDenseTakeDownDeletesJustThatLinkRow : OpenClaim := { program := "qxb6600404a", sum := "a50f8a0eba1c383fe5f67f4c84436ed2a6ae40e2118ff3635a31b77d0f838dba", func := "example.com/hearsay/hearsay/zzlaws_root_b1.FnLinkTableDenseTakeDownDeletesJustThatLink", spec := "fnLinkTableDenseTakeDownDeletesJustThatLink", inPlace := ["slices.overlaps[example.com/hearsay/hearsay.run]"], unfollowed := true, recurses := true, apart := false }
def FnLinkTableDenseTakeDownDeletesJustThatLinkSaid : Prop := fnLinkTableDenseTakeDownDeletesJustThatLinkRow.holds Try.pinned (OpenSpec.ofChange fnLinkTableDenseTakeDownDeletesJustThatLinkSpec)

/-- ITS FALSE NEIGHBOUR: 'it returns false'. Refute it at one input. -/
def fnLinkTableDenseTakeDownDeletesJustThatLinkWrong : ChangeSpec := { name := "fnLinkTableDenseTakeDownDeletesJustThatLink", fn := fun _ => fun
  | [d1, d2, d3] => { results := [.lit (.bool false)], args := [d1, d2, d3] }
  | _ => none }
def FnLinkTableDenseTakeDownDeletesJustThatLinkWrongFalsely : Prop := fnLinkTableDenseTakeDownDeletesJustThatLinkRow.holds Try.pinned (OpenSpec.ofChange fnLinkTableDenseTakeDownDeletesJustThatLinkWrong)

/-- 'zzlaws_root_b1.FnLinkTableSparseGetFindsOrStartsAtZero': WHATEVER THE INPUT: true; the input reads as it did. -/
def fnLinkTableSparseGetFindsOrStartsAtZeroSpec : ChangeSpec := { name := "fnLinkTableSparseGetFindsOrStartsAtZero", fn := fun _ => fun
  | [d1, d2, d3, d4, d5, d6] => { results := [.lit (.bool true)], args := [d1, d2, d3, d4, d5, d6] }
  | _ => none }
def fnLinkTableSparseGetFindsOrStartsAtZeroRow : OpenClaim := { program := "qxb6600404a", sum := "a50f8a0eba1c383fe5f67f4c84436ed2a6ae40e2118ff3635a31b77d0f838dba", func := "example.com/hearsay/hearsay/zzlaws_root_b1.FnLinkTableSparseGetFindsOrStartsAtZero", spec := "fnLinkTableSparseGetFindsOrStartsAtZero", unfollowed := true, recurses := true, apart := false }
def FnLinkTableSparseGetFindsOrStartsAtZeroSaid : Prop := fnLinkTableSparseGetFindsOrStartsAtZeroRow.holds Try.pinned (OpenSpec.ofChange fnLinkTableSparseGetFindsOrStartsAtZeroSpec)

/-- ITS FALSE NEIGHBOUR: 'it returns false'. Refute it at one input. -/
def fnLinkTableSparseGetFindsOrStartsAtZeroWrong : ChangeSpec := { name := "fnLinkTableSparseGetFindsOrStartsAtZero", fn := fun _ => fun
  | [d1, d2, d3, d4, d5, d6] => { results := [.lit (.bool false)], args := [d1, d2, d3, d4, d5, d6] }
  | _ => none }
def FnLinkTableSparseGetFindsOrStartsAtZeroWrongFalsely : Prop := fnLinkTableSparseGetFindsOrStartsAtZeroRow.holds Try.pinned (OpenSpec.ofChange fnLinkTableSparseGetFindsOrStartsAtZeroWrong)

/-- 'zzlaws_root_b1.FnLinkTableSparseTakeDownTakesOutJustThatLink': WHATEVER THE INPUT: true; the input reads as it did. -/
def fnLinkTableSparseTakeDownTakesOutJustThatLinkSpec : ChangeSpec := { name := "fnLinkTableSparseTakeDownTakesOutJustThatLink", fn := fun _ => fun
  | [d1, d2, d3, d4, d5, d6] => { results := [.lit (.bool true)], args := [d1, d2, d3, d4, d5, d6] }
  | _ => none }
def fnLinkTableSparseTakeDownTakesOutJustThatLinkRow : OpenClaim := { program := "qxb6600404a", sum := "a50f8a0eba1c383fe5f67f4c84436ed2a6ae40e2118ff3635a31b77d0f838dba", func := "example.com/hearsay/hearsay/zzlaws_root_b1.FnLinkTableSparseTakeDownTakesOutJustThatLink", spec := "fnLinkTableSparseTakeDownTakesOutJustThatLink", inPlace := ["slices.overlaps[example.com/hearsay/hearsay.run]"], unfollowed := true, recurses := true, apart := false }
def FnLinkTableSparseTakeDownTakesOutJustThatLinkSaid : Prop := fnLinkTableSparseTakeDownTakesOutJustThatLinkRow.holds Try.pinned (OpenSpec.ofChange fnLinkTableSparseTakeDownTakesOutJustThatLinkSpec)

/-- ITS FALSE NEIGHBOUR: 'it returns false'. Refute it at one input. -/
def fnLinkTableSparseTakeDownTakesOutJustThatLinkWrong : ChangeSpec := { name := "fnLinkTableSparseTakeDownTakesOutJustThatLink", fn := fun _ => fun
  | [d1, d2, d3, d4, d5, d6] => { results := [.lit (.bool false)], args := [d1, d2, d3, d4, d5, d6] }
  | _ => none }
def FnLinkTableSparseTakeDownTakesOutJustThatLinkWrongFalsely : Prop := fnLinkTableSparseTakeDownTakesOutJustThatLinkRow.holds Try.pinned (OpenSpec.ofChange fnLinkTableSparseTakeDownTakesOutJustThatLinkWrong)

/-- 'zzlaws_root_b1.FnLinkTableGetHandsOutTheTablesOwnRecord': WHATEVER THE INPUT: true; the input reads as it did. -/
def fnLinkTableGetHandsOutTheTablesOwnRecordSpec : ChangeSpec := { name := "fnLinkTableGetHandsOutTheTablesOwnRecord", fn := fun _ => fun
  | [d1, d2, d3, d4, d5, d6, d7, d8] => { results := [.lit (.bool true)], args := [d1, d2, d3, d4, d5, d6, d7, d8] }
  | _ => none }
def fnLinkTableGetHandsOutTheTablesOwnRecordRow : OpenClaim := { program := "qxb6600404a", sum := "a50f8a0eba1c383fe5f67f4c84436ed2a6ae40e2118ff3635a31b77d0f838dba", func := "example.com/hearsay/hearsay/zzlaws_root_b1.FnLinkTableGetHandsOutTheTablesOwnRecord", spec := "fnLinkTableGetHandsOutTheTablesOwnRecord", inPlace := ["slices.overlaps[example.com/hearsay/hearsay.run]"], unfollowed := true, recurses := true, apart := false }
def FnLinkTableGetHandsOutTheTablesOwnRecordSaid : Prop := fnLinkTableGetHandsOutTheTablesOwnRecordRow.holds Try.pinned (OpenSpec.ofChange fnLinkTableGetHandsOutTheTablesOwnRecordSpec)

/-- ITS FALSE NEIGHBOUR: 'it returns false'. Refute it at one input. -/
def fnLinkTableGetHandsOutTheTablesOwnRecordWrong : ChangeSpec := { name := "fnLinkTableGetHandsOutTheTablesOwnRecord", fn := fun _ => fun
  | [d1, d2, d3, d4, d5, d6, d7, d8] => { results := [.lit (.bool false)], args := [d1, d2, d3, d4, d5, d6, d7, d8] }
  | _ => none }
def FnLinkTableGetHandsOutTheTablesOwnRecordWrongFalsely : Prop := fnLinkTableGetHandsOutTheTablesOwnRecordRow.holds Try.pinned (OpenSpec.ofChange fnLinkTableGetHandsOutTheTablesOwnRecordWrong)

/-- 'zzlaws_root_b1.FnRunSetAddRangeThenRemoveEachRestores': WHATEVER THE INPUT: true; the input reads as it did. -/
def fnRunSetAddRangeThenRemoveEachRestoresSpec : ChangeSpec := { name := "fnRunSetAddRangeThenRemoveEachRestores", fn := fun _ => fun
  | [d1, d2, d3, d4, d5] => { results := [.lit (.bool true)], args := [d1, d2, d3, d4, d5] }
  | _ => none }
def fnRunSetAddRangeThenRemoveEachRestoresRow : OpenClaim := { program := "qxb6600404a", sum := "a50f8a0eba1c383fe5f67f4c84436ed2a6ae40e2118ff3635a31b77d0f838dba", func := "example.com/hearsay/hearsay/zzlaws_root_b1.FnRunSetAddRangeThenRemoveEachRestores", spec := "fnRunSetAddRangeThenRemoveEachRestores", inPlace := ["slices.overlaps[example.com/hearsay/hearsay.run]"], unfollowed := true, recurses := true, apart := false }
def FnRunSetAddRangeThenRemoveEachRestoresSaid : Prop := fnRunSetAddRangeThenRemoveEachRestoresRow.holds Try.pinned (OpenSpec.ofChange fnRunSetAddRangeThenRemoveEachRestoresSpec)

/-- ITS FALSE NEIGHBOUR: 'it returns false'. Refute it at one input. -/
def fnRunSetAddRangeThenRemoveEachRestoresWrong : ChangeSpec := { name := "fnRunSetAddRangeThenRemoveEachRestores", fn := fun _ => fun
  | [d1, d2, d3, d4, d5] => { results := [.lit (.bool false)], args := [d1, d2, d3, d4, d5] }
  | _ => none }
def FnRunSetAddRangeThenRemoveEachRestoresWrongFalsely : Prop := fnRunSetAddRangeThenRemoveEachRestoresRow.holds Try.pinned (OpenSpec.ofChange fnRunSetAddRangeThenRemoveEachRestoresWrong)

end Rows
end Go.Proofs.Qxb6600404a
