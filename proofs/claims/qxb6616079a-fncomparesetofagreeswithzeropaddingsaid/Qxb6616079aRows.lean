/-
  No cell of these rows narrows 'for every input' (looked for: loops, veiled, ifaces, maps, wideKeys, modest, calm, conditions, laid).
  DERIVED. THE GIVEN ROWS OF THIS SEAT. 2 by the template 'for every input the law returns true; each argument reads behind the call as it read before'; 0 by the template 'total and deterministic' (their statements: Qxb6616079aTotals.lean).
  GIVEN WITH THE SEED: the statements are not yours to turn. If you find one false, say at which input.
  Laid BY PROGRAM, IN A SANDBOX (cutbox-rows.mjs): the forced cells as the released guide's own fill.sh prints them over the translation e9907139adbfeec0… (all of the seat's roots in one cut). By AI agents, Wed Nov 11 2026. No macro, syntax, notation, axiom, sorry.
-/
import Derived.Test.Qxb6616079aChecked
import GoSem.Claim
import GoSem.ClaimJoined
import GoSem.ClaimMapViews
import Derived.JoinedTies
import Derived.KernelRfl
namespace Go.Proofs.Qxb6616079a
/- THE CELL 'sum', in the pinned program and in every row, IS THE sha256 OF THE DUMP (.gsa) THAT Qxb6616079aProg.lean LOADS. Nothing in Lean hashes anything: it is a label: what it is worth is what the hold of that sum in a sandbox is worth. -/
noncomputable def Try.pinned : Pinned := { name := "qxb6616079a", sum := "e9907139adbfeec0a1142ec73d223ac451ac6f35508bc4b986e2b472e4589b3f", checked := Try.checked }
namespace Rows
def none {H : Type} : Left H := { results := [], args := [] }

/-- 'zzlaws_internal_der_b1.FnCompareSetOfLexicographicAntisymmetric': WHATEVER THE INPUT: true; the input reads as it did. -/
def fnCompareSetOfLexicographicAntisymmetricSpec : ChangeSpec := { name := "fnCompareSetOfLexicographicAntisymmetric", fn := fun _ => fun
  | [d1, d2] => { results := [.lit (.bool true)], args := [d1, d2] }
  | _ => none }
def fnCompareSetOfLexicographicAntisymmetricRow : OpenClaim := { program := "qxb6616079a", sum := "e9907139adbfeec0a1142ec73d223ac451ac6f35508bc4b986e2b472e4589b3f", func := "example.com/provisor/provisor/zzlaws_internal_der_b1.FnCompareSetOfLexicographicAntisymmetric", spec := "fnCompareSetOfLexicographicAntisymmetric", inPlace := ["internal/bytealg.Compare"], apart := false }
def FnCompareSetOfLexicographicAntisymmetricSaid : Prop := fnCompareSetOfLexicographicAntisymmetricRow.holds Try.pinned (OpenSpec.ofChange fnCompareSetOfLexicographicAntisymmetricSpec)

/-- ITS FALSE NEIGHBOUR: 'it returns false'. Refute it at one input. -/
def fnCompareSetOfLexicographicAntisymmetricWrong : ChangeSpec := { name := "fnCompareSetOfLexicographicAntisymmetric", fn := fun _ => fun
  | [d1, d2] => { results := [.lit (.bool false)], args := [d1, d2] }
  | _ => none }
def FnCompareSetOfLexicographicAntisymmetricWrongFalsely : Prop := fnCompareSetOfLexicographicAntisymmetricRow.holds Try.pinned (OpenSpec.ofChange fnCompareSetOfLexicographicAntisymmetricWrong)

/-- 'zzlaws_internal_der_b1.FnCompareSetOfAgreesWithZeroPadding': WHATEVER THE INPUT: true; the input reads as it did. -/
def fnCompareSetOfAgreesWithZeroPaddingSpec : ChangeSpec := { name := "fnCompareSetOfAgreesWithZeroPadding", fn := fun _ => fun
  | [d1, d2] => { results := [.lit (.bool true)], args := [d1, d2] }
  | _ => none }
def fnCompareSetOfAgreesWithZeroPaddingRow : OpenClaim := { program := "qxb6616079a", sum := "e9907139adbfeec0a1142ec73d223ac451ac6f35508bc4b986e2b472e4589b3f", func := "example.com/provisor/provisor/zzlaws_internal_der_b1.FnCompareSetOfAgreesWithZeroPadding", spec := "fnCompareSetOfAgreesWithZeroPadding", inPlace := ["internal/bytealg.Compare"], apart := false }
def FnCompareSetOfAgreesWithZeroPaddingSaid : Prop := fnCompareSetOfAgreesWithZeroPaddingRow.holds Try.pinned (OpenSpec.ofChange fnCompareSetOfAgreesWithZeroPaddingSpec)

/-- ITS FALSE NEIGHBOUR: 'it returns false'. Refute it at one input. -/
def fnCompareSetOfAgreesWithZeroPaddingWrong : ChangeSpec := { name := "fnCompareSetOfAgreesWithZeroPadding", fn := fun _ => fun
  | [d1, d2] => { results := [.lit (.bool false)], args := [d1, d2] }
  | _ => none }
def FnCompareSetOfAgreesWithZeroPaddingWrongFalsely : Prop := fnCompareSetOfAgreesWithZeroPaddingRow.holds Try.pinned (OpenSpec.ofChange fnCompareSetOfAgreesWithZeroPaddingWrong)

end Rows
end Go.Proofs.Qxb6616079a
