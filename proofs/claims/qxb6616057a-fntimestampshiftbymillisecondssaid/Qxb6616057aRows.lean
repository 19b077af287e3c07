/-
  No cell of these rows narrows 'for every input' (looked for: loops, veiled, ifaces, maps, wideKeys, modest, calm, conditions, laid).
  DERIVED. THE GIVEN ROWS OF THIS SEAT. 1 by the template 'for every input the law returns true; each argument reads behind the call as it read before'; 0 by the template 'total and deterministic' (their statements: Qxb6616057aTotals.lean).
  GIVEN WITH THE SEED: the statements are not yours to turn. If you find one false, say at which input.
  Laid BY PROGRAM, IN A SANDBOX (cutbox-rows.mjs): the forced cells as the released guide's own fill.sh prints them over the translation f988e83576166d05… (all of the seat's roots in one cut). By AI agents, Wed Nov 11 2026. No macro, syntax, notation, axiom, sorry.
-/
import Derived.Test.Qxb6616057aChecked
import GoSem.Claim
import GoSem.ClaimJoined
import GoSem.ClaimMapViews
import Derived.JoinedTies
import Derived.KernelRfl
namespace Go.Proofs.Qxb6616057a
/- THE CELL 'sum', in the pinned program and in every row, IS THE sha256 OF THE DUMP (.gsa) THAT Qxb6616057aProg.lean LOADS. Nothing in Lean hashes anything: it is a label: what it is worth is what the hold of that sum in a sandbox is worth. -/
noncomputable def Try.pinned : Pinned := { name := "qxb6616057a", sum := "f988e83576166d056d5113ddaf2b138d364f8a6894dea97f59380524ba7a4303", checked := Try.checked }
namespace Rows
def none {H : Type} : Left H := { results := [], args := [] }

/-- 'zzlaws_flake_b1.FnTimestampShiftByMilliseconds': WHATEVER THE INPUT: true; the input reads as it did. -/
def fnTimestampShiftByMillisecondsSpec : ChangeSpec := { name := "fnTimestampShiftByMilliseconds", fn := fun _ => fun
  | [d1, d2] => { results := [.lit (.bool true)], args := [d1, d2] }
  | _ => none }
def fnTimestampShiftByMillisecondsRow : OpenClaim := { program := "qxb6616057a", sum := "f988e83576166d056d5113ddaf2b138d364f8a6894dea97f59380524ba7a4303", func := "example.com/monotick/monotick/zzlaws_flake_b1.FnTimestampShiftByMilliseconds", spec := "fnTimestampShiftByMilliseconds", apart := false }
def FnTimestampShiftByMillisecondsSaid : Prop := fnTimestampShiftByMillisecondsRow.holds Try.pinned (OpenSpec.ofChange fnTimestampShiftByMillisecondsSpec)

/-- ITS FALSE NEIGHBOUR: 'it returns false'. Refute it at one input. -/
def fnTimestampShiftByMillisecondsWrong : ChangeSpec := { name := "fnTimestampShiftByMilliseconds", fn := fun _ => fun
  | [d1, d2] => { results := [.lit (.bool false)], args := [d1, d2] }
  | _ => none }
def FnTimestampShiftByMillisecondsWrongFalsely : Prop := fnTimestampShiftByMillisecondsRow.holds Try.pinned (OpenSpec.ofChange fnTimestampShiftByMillisecondsWrong)

end Rows
end Go.Proofs.Qxb6616057a
