/-
  No cell of these rows narrows 'for every input' (looked for: loops, veiled, ifaces, maps, wideKeys, modest, calm, conditions, laid).
  DERIVED. THE GIVEN ROWS OF THIS SEAT. 3 by the template 'for every input the law returns true; each argument reads behind the call as it read before'; 0 by the template 'total and deterministic' (their statements: Qxb6621646aTotals.lean).
  GIVEN WITH THE SEED: the statements are not yours to turn. If you find one false, say at which input.
  Laid BY PROGRAM, IN A SANDBOX (cutbox-rows.mjs): the forced cells as the released guide's own fill.sh prints them over the translation 634e8d1836e76ff2… (all of the seat's roots in one cut). By AI agents, Wed Nov 11 2026. No macro, syntax, notation, axiom, sorry.
-/
import Derived.Test.Qxb6621646aChecked
import GoSem.Claim
import GoSem.ClaimJoined
import GoSem.ClaimMapViews
import Derived.JoinedTies
import Derived.KernelRfl
namespace Go.Proofs.Qxb6621646a
/- THE CELL 'sum', in the pinned program and in every row, IS THE sha256 OF THE DUMP (.gsa) THAT Qxb6621646aProg.lean LOADS. Nothing in Lean hashes anything: it is a label: what it is worth is what the hold of that sum in a sandbox is worth. -/
noncomputable def Try.pinned : Pinned := { name := "qxb6621646a", sum := "634e8d1836e76ff2b233618214c57aa30dd799e0f243d93117a0a46487c4e462", checked := Try.checked }
namespace Rows
def none {H : Type} : Left H := { results := [], args := [] }

/-- 'zzlaws_api_b1.FnIsJSONNumberFormsAndSign': WHATEVER THE INPUT: true; the input reads as it did. -/
def fnIsJSONNumberFormsAndSignSpec : ChangeSpec := { name := "fnIsJSONNumberFormsAndSign", fn := fun _ => fun
  | [d1, d2, d3, d4] => { results := [.lit (.bool true)], args := [d1, d2, d3, d4] }
  | _ => none }
def fnIsJSONNumberFormsAndSignRow : OpenClaim := { program := "qxb6621646a", sum := "634e8d1836e76ff2b233618214c57aa30dd799e0f243d93117a0a46487c4e462", func := "example.com/rowgate/rowgate/zzlaws_api_b1.FnIsJSONNumberFormsAndSign", spec := "fnIsJSONNumberFormsAndSign", unfollowed := true, recurses := true, apart := false }
def FnIsJSONNumberFormsAndSignSaid : Prop := fnIsJSONNumberFormsAndSignRow.holds Try.pinned (OpenSpec.ofChange fnIsJSONNumberFormsAndSignSpec)

/-- ITS FALSE NEIGHBOUR: 'it returns false'. Refute it at one input. -/
def fnIsJSONNumberFormsAndSignWrong : ChangeSpec := { name := "fnIsJSONNumberFormsAndSign", fn := fun _ => fun
  | [d1, d2, d3, d4] => { results := [.lit (.bool false)], args := [d1, d2, d3, d4] }
  | _ => none }
def FnIsJSONNumberFormsAndSignWrongFalsely : Prop := fnIsJSONNumberFormsAndSignRow.holds Try.pinned (OpenSpec.ofChange fnIsJSONNumberFormsAndSignWrong)

/-- 'zzlaws_api_b1.FnIsJSONNumberAutomaton': WHATEVER THE INPUT: true; the input reads as it did. -/
def fnIsJSONNumberAutomatonSpec : ChangeSpec := { name := "fnIsJSONNumberAutomaton", fn := fun _ => fun
  | [d] => { results := [.lit (.bool true)], args := [d] }
  | _ => none }
def fnIsJSONNumberAutomatonRow : OpenClaim := { program := "qxb6621646a", sum := "634e8d1836e76ff2b233618214c57aa30dd799e0f243d93117a0a46487c4e462", func := "example.com/rowgate/rowgate/zzlaws_api_b1.FnIsJSONNumberAutomaton", spec := "fnIsJSONNumberAutomaton", unfollowed := true, recurses := true, apart := false }
def FnIsJSONNumberAutomatonSaid : Prop := fnIsJSONNumberAutomatonRow.holds Try.pinned (OpenSpec.ofChange fnIsJSONNumberAutomatonSpec)

/-- ITS FALSE NEIGHBOUR: 'it returns false'. Refute it at one input. -/
def fnIsJSONNumberAutomatonWrong : ChangeSpec := { name := "fnIsJSONNumberAutomaton", fn := fun _ => fun
  | [d] => { results := [.lit (.bool false)], args := [d] }
  | _ => none }
def FnIsJSONNumberAutomatonWrongFalsely : Prop := fnIsJSONNumberAutomatonRow.holds Try.pinned (OpenSpec.ofChange fnIsJSONNumberAutomatonWrong)

/-- 'zzlaws_api_b1.FnNamesChildByMemberRemove': WHATEVER THE INPUT: true; the input reads as it did. -/
def fnNamesChildByMemberRemoveSpec : ChangeSpec := { name := "fnNamesChildByMemberRemove", fn := fun _ => fun
  | [d1, d2, d3, d4] => { results := [.lit (.bool true)], args := [d1, d2, d3, d4] }
  | _ => none }
def fnNamesChildByMemberRemoveRow : OpenClaim := { program := "qxb6621646a", sum := "634e8d1836e76ff2b233618214c57aa30dd799e0f243d93117a0a46487c4e462", func := "example.com/rowgate/rowgate/zzlaws_api_b1.FnNamesChildByMemberRemove", spec := "fnNamesChildByMemberRemove", apart := false }
def FnNamesChildByMemberRemoveSaid : Prop := fnNamesChildByMemberRemoveRow.holds Try.pinned (OpenSpec.ofChange fnNamesChildByMemberRemoveSpec)

/-- ITS FALSE NEIGHBOUR: 'it returns false'. Refute it at one input. -/
def fnNamesChildByMemberRemoveWrong : ChangeSpec := { name := "fnNamesChildByMemberRemove", fn := fun _ => fun
  | [d1, d2, d3, d4] => { results := [.lit (.bool false)], args := [d1, d2, d3, d4] }
  | _ => none }
def FnNamesChildByMemberRemoveWrongFalsely : Prop := fnNamesChildByMemberRemoveRow.holds Try.pinned (OpenSpec.ofChange fnNamesChildByMemberRemoveWrong)

end Rows
end Go.Proofs.Qxb6621646a
