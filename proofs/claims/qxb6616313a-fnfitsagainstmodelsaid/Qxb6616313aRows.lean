/-
  No cell of these rows narrows 'for every input' (looked for: loops, veiled, ifaces, maps, wideKeys, modest, calm, conditions, laid).
  DERIVED. THE GIVEN ROWS OF THIS SEAT. 5 by the template 'for every input the law returns true; each argument reads behind the call as it read before'; 0 by the template 'total and deterministic' (their statements: Qxb6616313aTotals.lean).
  GIVEN WITH THE SEED: the statements are not yours to turn. If you find one false, say at which input.
  Laid BY PROGRAM, IN A SANDBOX (cutbox-rows.mjs): the forced cells as the released guide's own fill.sh prints them over the translation e6f7799e3df25db9… (all of the seat's roots in one cut). By AI agents, Wed Nov 11 2026. No macro, syntax, notation, axiom, sorry.
-/
import Derived.Test.Qxb6616313aChecked
import GoSem.Claim
import GoSem.ClaimJoined
import GoSem.ClaimMapViews
import Derived.JoinedTies
import Derived.KernelRfl
namespace Go.Proofs.Qxb6616313a
/- THE CELL 'sum', in the pinned program and in every row, IS THE sha256 OF THE DUMP (.gsa) THAT Qxb6616313aProg.lean LOADS. Nothing in Lean hashes anything: it is a label: what it is worth is what the hold of that sum in a sandbox is worth. -/
noncomputable def Try.pinned : Pinned := { name := "qxb6616313a", sum := "e6f7799e3df25db9fe9424f05bedc93c61cef526b7c2c3d555fa49c28040b89f", checked := Try.checked }
namespace Rows
def none {H : Type} : Left H := { results := [], args := [] }

/-- 'zzlaws_internal_vclog_b1.FnTrieTableMadeOnceWithRoomPerRecord': WHATEVER THE INPUT: true; the input reads as it did. -/
def fnTrieTableMadeOnceWithRoomPerRecordSpec : ChangeSpec := { name := "fnTrieTableMadeOnceWithRoomPerRecord", fn := fun _ => fun
  | [d1, d2] => { results := [.lit (.bool true)], args := [d1, d2] }
  | _ => none }
def fnTrieTableMadeOnceWithRoomPerRecordRow : OpenClaim := { program := "qxb6616313a", sum := "e6f7799e3df25db9fe9424f05bedc93c61cef526b7c2c3d555fa49c28040b89f", func := "example.com/beforehand/beforehand/zzlaws_internal_vclog_b1.FnTrieTableMadeOnceWithRoomPerRecord", spec := "fnTrieTableMadeOnceWithRoomPerRecord", plainKeys := false, apart := false }
def FnTrieTableMadeOnceWithRoomPerRecordSaid : Prop := fnTrieTableMadeOnceWithRoomPerRecordRow.holds Try.pinned (OpenSpec.ofChange fnTrieTableMadeOnceWithRoomPerRecordSpec)

/-- ITS FALSE NEIGHBOUR: 'it returns false'. Refute it at one input. -/
def fnTrieTableMadeOnceWithRoomPerRecordWrong : ChangeSpec := { name := "fnTrieTableMadeOnceWithRoomPerRecord", fn := fun _ => fun
  | [d1, d2] => { results := [.lit (.bool false)], args := [d1, d2] }
  | _ => none }
def FnTrieTableMadeOnceWithRoomPerRecordWrongFalsely : Prop := fnTrieTableMadeOnceWithRoomPerRecordRow.holds Try.pinned (OpenSpec.ofChange fnTrieTableMadeOnceWithRoomPerRecordWrong)

/-- 'zzlaws_internal_vclog_b1.FnFitsAgainstModel': WHATEVER THE INPUT: true; the input reads as it did. -/
def fnFitsAgainstModelSpec : ChangeSpec := { name := "fnFitsAgainstModel", fn := fun _ => fun
  | [d1, d2, d3, d4, d5, d6, d7, d8, d9, d10, d11] => { results := [.lit (.bool true)], args := [d1, d2, d3, d4, d5, d6, d7, d8, d9, d10, d11] }
  | _ => none }
def fnFitsAgainstModelRow : OpenClaim := { program := "qxb6616313a", sum := "e6f7799e3df25db9fe9424f05bedc93c61cef526b7c2c3d555fa49c28040b89f", func := "example.com/beforehand/beforehand/zzlaws_internal_vclog_b1.FnFitsAgainstModel", spec := "fnFitsAgainstModel", plainKeys := false, apart := false }
def FnFitsAgainstModelSaid : Prop := fnFitsAgainstModelRow.holds Try.pinned (OpenSpec.ofChange fnFitsAgainstModelSpec)

/-- ITS FALSE NEIGHBOUR: 'it returns false'. Refute it at one input. -/
def fnFitsAgainstModelWrong : ChangeSpec := { name := "fnFitsAgainstModel", fn := fun _ => fun
  | [d1, d2, d3, d4, d5, d6, d7, d8, d9, d10, d11] => { results := [.lit (.bool false)], args := [d1, d2, d3, d4, d5, d6, d7, d8, d9, d10, d11] }
  | _ => none }
def FnFitsAgainstModelWrongFalsely : Prop := fnFitsAgainstModelRow.holds Try.pinned (OpenSpec.ofChange fnFitsAgainstModelWrong)

/-- 'zzlaws_internal_vclog_b1.FnFitsAboveOwnClockOnlyWhenRaised': WHATEVER THE INPUT: true; the input reads as it did. -/
def fnFitsAboveOwnClockOnlyWhenRaisedSpec : ChangeSpec := { name := "fnFitsAboveOwnClockOnlyWhenRaised", fn := fun _ => fun
  | [d1, d2, d3, d4, d5, d6, d7, d8, d9, d10, d11] => { results := [.lit (.bool true)], args := [d1, d2, d3, d4, d5, d6, d7, d8, d9, d10, d11] }
  | _ => none }
def fnFitsAboveOwnClockOnlyWhenRaisedRow : OpenClaim := { program := "qxb6616313a", sum := "e6f7799e3df25db9fe9424f05bedc93c61cef526b7c2c3d555fa49c28040b89f", func := "example.com/beforehand/beforehand/zzlaws_internal_vclog_b1.FnFitsAboveOwnClockOnlyWhenRaised", spec := "fnFitsAboveOwnClockOnlyWhenRaised", plainKeys := false, apart := false }
def FnFitsAboveOwnClockOnlyWhenRaisedSaid : Prop := fnFitsAboveOwnClockOnlyWhenRaisedRow.holds Try.pinned (OpenSpec.ofChange fnFitsAboveOwnClockOnlyWhenRaisedSpec)

/-- ITS FALSE NEIGHBOUR: 'it returns false'. Refute it at one input. -/
def fnFitsAboveOwnClockOnlyWhenRaisedWrong : ChangeSpec := { name := "fnFitsAboveOwnClockOnlyWhenRaised", fn := fun _ => fun
  | [d1, d2, d3, d4, d5, d6, d7, d8, d9, d10, d11] => { results := [.lit (.bool false)], args := [d1, d2, d3, d4, d5, d6, d7, d8, d9, d10, d11] }
  | _ => none }
def FnFitsAboveOwnClockOnlyWhenRaisedWrongFalsely : Prop := fnFitsAboveOwnClockOnlyWhenRaisedRow.holds Try.pinned (OpenSpec.ofChange fnFitsAboveOwnClockOnlyWhenRaisedWrong)

/-- 'zzlaws_internal_vclog_b1.FnNewLogInputsAreThePartsInputs': WHATEVER THE INPUT: true; the input reads as it did. -/
def fnNewLogInputsAreThePartsInputsSpec : ChangeSpec := { name := "fnNewLogInputsAreThePartsInputs", fn := fun _ => fun
  | [d] => { results := [.lit (.bool true)], args := [d] }
  | _ => none }
def fnNewLogInputsAreThePartsInputsRow : OpenClaim := { program := "qxb6616313a", sum := "e6f7799e3df25db9fe9424f05bedc93c61cef526b7c2c3d555fa49c28040b89f", func := "example.com/beforehand/beforehand/zzlaws_internal_vclog_b1.FnNewLogInputsAreThePartsInputs", spec := "fnNewLogInputsAreThePartsInputs", plainKeys := false, apart := false }
def FnNewLogInputsAreThePartsInputsSaid : Prop := fnNewLogInputsAreThePartsInputsRow.holds Try.pinned (OpenSpec.ofChange fnNewLogInputsAreThePartsInputsSpec)

/-- ITS FALSE NEIGHBOUR: 'it returns false'. Refute it at one input. -/
def fnNewLogInputsAreThePartsInputsWrong : ChangeSpec := { name := "fnNewLogInputsAreThePartsInputs", fn := fun _ => fun
  | [d] => { results := [.lit (.bool false)], args := [d] }
  | _ => none }
def FnNewLogInputsAreThePartsInputsWrongFalsely : Prop := fnNewLogInputsAreThePartsInputsRow.holds Try.pinned (OpenSpec.ofChange fnNewLogInputsAreThePartsInputsWrong)

/-- 'zzlaws_internal_vclog_b1.FnInputsAreTheLogsOwnCopy': WHATEVER THE INPUT: true; the input reads as it did. -/
def fnInputsAreTheLogsOwnCopySpec : ChangeSpec := { name := "fnInputsAreTheLogsOwnCopy", fn := fun _ => fun
  | [d] => { results := [.lit (.bool true)], args := [d] }
  | _ => none }
def fnInputsAreTheLogsOwnCopyRow : OpenClaim := { program := "qxb6616313a", sum := "e6f7799e3df25db9fe9424f05bedc93c61cef526b7c2c3d555fa49c28040b89f", func := "example.com/beforehand/beforehand/zzlaws_internal_vclog_b1.FnInputsAreTheLogsOwnCopy", spec := "fnInputsAreTheLogsOwnCopy", plainKeys := false, apart := false }
def FnInputsAreTheLogsOwnCopySaid : Prop := fnInputsAreTheLogsOwnCopyRow.holds Try.pinned (OpenSpec.ofChange fnInputsAreTheLogsOwnCopySpec)

/-- ITS FALSE NEIGHBOUR: 'it returns false'. Refute it at one input. -/
def fnInputsAreTheLogsOwnCopyWrong : ChangeSpec := { name := "fnInputsAreTheLogsOwnCopy", fn := fun _ => fun
  | [d] => { results := [.lit (.bool false)], args := [d] }
  | _ => none }
def FnInputsAreTheLogsOwnCopyWrongFalsely : Prop := fnInputsAreTheLogsOwnCopyRow.holds Try.pinned (OpenSpec.ofChange fnInputsAreTheLogsOwnCopyWrong)

end Rows
end Go.Proofs.Qxb6616313a
