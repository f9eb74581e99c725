/-
  No cell of these rows narrows 'for every input' (looked for: loops, veiled, ifaces, maps, wideKeys, modest, calm, conditions, laid).
  DERIVED. THE GIVEN ROWS OF THIS SEAT. 4 by the template 'for every input the law returns true; each argument reads behind the call as it read before'; 0 by the template 'total and deterministic' (their statements: Qxb6619459aTotals.lean).
  GIVEN WITH THE SEED: the statements are not yours to turn. If you find one false, say at which input.
  Laid BY PROGRAM, IN A SANDBOX (cutbox-rows.mjs): the forced cells as the released guide's own fill.sh prints them over the translation 853ccaff8792187b… (all of the seat's roots in one cut). By AI agents, Wed Nov 11 2026. No macro, syntax, notation, axiom, sorry.
-/
import Derived.Test.Qxb6619459aChecked
import GoSem.Claim
import GoSem.ClaimJoined
import GoSem.ClaimMapViews
import Derived.JoinedTies
import Derived.KernelRfl
namespace Go.Proofs.Qxb6619459a
/- THE CELL 'sum', in the pinned program and in every row, IS THE sha256 OF THE DUMP (.gsa) THAT Qxb6619459aProg.lean LOADS. Nothing in Lean hashes anything: it is a label: what it is worth is what the hold of that sum in a sandbox is worth. -/
noncomputable def Try.pinned : Pinned := { name := "qxb6619459a", sum := "853ccaff8792187bf3b3b560abf00efbd123c5bf6dc2e22cbc92de23c1b14bac", checked := Try.checked }
namespace Rows
def none {H : Type} : Left H := { results := [], args := [] }

/-- 'zzlaws_internal_tariff_b1.FnUnitMirroredEncodingAgrees': WHATEVER THE INPUT: true; the input reads as it did. -/
def fnUnitMirroredEncodingAgreesSpec : ChangeSpec := { name := "fnUnitMirroredEncodingAgrees", fn := fun _ => fun
  | [d1, d2, d3, d4] => { results := [.lit (.bool true)], args := [d1, d2, d3, d4] }
  | _ => none }
def fnUnitMirroredEncodingAgreesRow : OpenClaim := { program := "qxb6619459a", sum := "853ccaff8792187bf3b3b560abf00efbd123c5bf6dc2e22cbc92de23c1b14bac", func := "example.com/fuelpeg/fuelpeg/zzlaws_internal_tariff_b1.FnUnitMirroredEncodingAgrees", spec := "fnUnitMirroredEncodingAgrees", apart := false }
def FnUnitMirroredEncodingAgreesSaid : Prop := fnUnitMirroredEncodingAgreesRow.holds Try.pinned (OpenSpec.ofChange fnUnitMirroredEncodingAgreesSpec)

/-- ITS FALSE NEIGHBOUR: 'it returns false'. Refute it at one input. -/
def fnUnitMirroredEncodingAgreesWrong : ChangeSpec := { name := "fnUnitMirroredEncodingAgrees", fn := fun _ => fun
  | [d1, d2, d3, d4] => { results := [.lit (.bool false)], args := [d1, d2, d3, d4] }
  | _ => none }
def FnUnitMirroredEncodingAgreesWrongFalsely : Prop := fnUnitMirroredEncodingAgreesRow.holds Try.pinned (OpenSpec.ofChange fnUnitMirroredEncodingAgreesWrong)

/-- 'zzlaws_internal_tariff_b1.FnJoinKeyNestsAsOneDottedPath': WHATEVER THE INPUT: true; the input reads as it did. -/
def fnJoinKeyNestsAsOneDottedPathSpec : ChangeSpec := { name := "fnJoinKeyNestsAsOneDottedPath", fn := fun _ => fun
  | [d1, d2, d3] => { results := [.lit (.bool true)], args := [d1, d2, d3] }
  | _ => none }
def fnJoinKeyNestsAsOneDottedPathRow : OpenClaim := { program := "qxb6619459a", sum := "853ccaff8792187bf3b3b560abf00efbd123c5bf6dc2e22cbc92de23c1b14bac", func := "example.com/fuelpeg/fuelpeg/zzlaws_internal_tariff_b1.FnJoinKeyNestsAsOneDottedPath", spec := "fnJoinKeyNestsAsOneDottedPath", apart := false }
def FnJoinKeyNestsAsOneDottedPathSaid : Prop := fnJoinKeyNestsAsOneDottedPathRow.holds Try.pinned (OpenSpec.ofChange fnJoinKeyNestsAsOneDottedPathSpec)

/-- ITS FALSE NEIGHBOUR: 'it returns false'. Refute it at one input. -/
def fnJoinKeyNestsAsOneDottedPathWrong : ChangeSpec := { name := "fnJoinKeyNestsAsOneDottedPath", fn := fun _ => fun
  | [d1, d2, d3] => { results := [.lit (.bool false)], args := [d1, d2, d3] }
  | _ => none }
def FnJoinKeyNestsAsOneDottedPathWrongFalsely : Prop := fnJoinKeyNestsAsOneDottedPathRow.holds Try.pinned (OpenSpec.ofChange fnJoinKeyNestsAsOneDottedPathWrong)

/-- 'zzlaws_internal_tariff_b1.FnJoinKeySeparatesKeysAndCutsBack': WHATEVER THE INPUT: true; the input reads as it did. -/
def fnJoinKeySeparatesKeysAndCutsBackSpec : ChangeSpec := { name := "fnJoinKeySeparatesKeysAndCutsBack", fn := fun _ => fun
  | [d1, d2, d3] => { results := [.lit (.bool true)], args := [d1, d2, d3] }
  | _ => none }
def fnJoinKeySeparatesKeysAndCutsBackRow : OpenClaim := { program := "qxb6619459a", sum := "853ccaff8792187bf3b3b560abf00efbd123c5bf6dc2e22cbc92de23c1b14bac", func := "example.com/fuelpeg/fuelpeg/zzlaws_internal_tariff_b1.FnJoinKeySeparatesKeysAndCutsBack", spec := "fnJoinKeySeparatesKeysAndCutsBack", apart := false }
def FnJoinKeySeparatesKeysAndCutsBackSaid : Prop := fnJoinKeySeparatesKeysAndCutsBackRow.holds Try.pinned (OpenSpec.ofChange fnJoinKeySeparatesKeysAndCutsBackSpec)

/-- ITS FALSE NEIGHBOUR: 'it returns false'. Refute it at one input. -/
def fnJoinKeySeparatesKeysAndCutsBackWrong : ChangeSpec := { name := "fnJoinKeySeparatesKeysAndCutsBack", fn := fun _ => fun
  | [d1, d2, d3] => { results := [.lit (.bool false)], args := [d1, d2, d3] }
  | _ => none }
def FnJoinKeySeparatesKeysAndCutsBackWrongFalsely : Prop := fnJoinKeySeparatesKeysAndCutsBackRow.holds Try.pinned (OpenSpec.ofChange fnJoinKeySeparatesKeysAndCutsBackWrong)

/-- 'zzlaws_internal_tariff_b1.FnDescribeNamesEveryPathStably': WHATEVER THE INPUT: true; the input reads as it did. -/
def fnDescribeNamesEveryPathStablySpec : ChangeSpec := { name := "fnDescribeNamesEveryPathStably", fn := fun _ => fun
  | [d] => { results := [.lit (.bool true)], args := [d] }
  | _ => none }
def fnDescribeNamesEveryPathStablyRow : OpenClaim := { program := "qxb6619459a", sum := "853ccaff8792187bf3b3b560abf00efbd123c5bf6dc2e22cbc92de23c1b14bac", func := "example.com/fuelpeg/fuelpeg/zzlaws_internal_tariff_b1.FnDescribeNamesEveryPathStably", spec := "fnDescribeNamesEveryPathStably", apart := false }
def FnDescribeNamesEveryPathStablySaid : Prop := fnDescribeNamesEveryPathStablyRow.holds Try.pinned (OpenSpec.ofChange fnDescribeNamesEveryPathStablySpec)

/-- ITS FALSE NEIGHBOUR: 'it returns false'. Refute it at one input. -/
def fnDescribeNamesEveryPathStablyWrong : ChangeSpec := { name := "fnDescribeNamesEveryPathStably", fn := fun _ => fun
  | [d] => { results := [.lit (.bool false)], args := [d] }
  | _ => none }
def FnDescribeNamesEveryPathStablyWrongFalsely : Prop := fnDescribeNamesEveryPathStablyRow.holds Try.pinned (OpenSpec.ofChange fnDescribeNamesEveryPathStablyWrong)

end Rows
end Go.Proofs.Qxb6619459a
