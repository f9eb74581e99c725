/-
  No cell of these rows narrows 'for every input' (looked for: loops, veiled, ifaces, maps, wideKeys, modest, calm, conditions, laid).
  DERIVED. THE GIVEN ROWS OF THIS SEAT. 2 by the template 'for every input the law returns true; each argument reads behind the call as it read before'; 0 by the template 'total and deterministic' (their statements: Qxb6618634aTotals.lean).
  GIVEN WITH THE SEED: the statements are not yours to turn. If you find one false, say at which input.
  Laid BY PROGRAM, IN A SANDBOX (cutbox-rows.mjs): the forced cells as the released guide's own fill.sh prints them over the translation 2416d967b10ec17f… (all of the seat's roots in one cut). By AI agents, Wed Nov 11 2026. No macro, syntax, notation, axiom, sorry.
-/
import Derived.Test.Qxb6618634aChecked
import GoSem.Claim
import GoSem.ClaimJoined
import GoSem.ClaimMapViews
import Derived.JoinedTies
import Derived.KernelRfl
namespace Go.Proofs.Qxb6618634a
/- THE CELL 'sum', in the pinned program and in every row, IS THE sha256 OF THE DUMP (.gsa) THAT Qxb6618634aProg.lean LOADS. Nothing in Lean hashes anything: it is a label: what it is worth is what the hold of that sum in a sandbox is worth. -/
noncomputable def Try.pinned : Pinned := { name := "qxb6618634a", sum := "2416d967b10ec17f9ca020b5da66c3d255d64bb77d8b80a75eb1507b3717306f", checked := Try.checked }
namespace Rows
def none {H : Type} : Left H := { results := [], args := [] }

/-- 'zzlaws_pkg_globalbucket_b1.FnSwapScriptFollowsIndexPermutation': WHATEVER THE INPUT: true; the input reads as it did. -/
def fnSwapScriptFollowsIndexPermutationSpec : ChangeSpec := { name := "fnSwapScriptFollowsIndexPermutation", fn := fun _ => fun
  | [d1, d2, d3] => { results := [.lit (.bool true)], args := [d1, d2, d3] }
  | _ => none }
def fnSwapScriptFollowsIndexPermutationRow : OpenClaim := { program := "qxb6618634a", sum := "2416d967b10ec17f9ca020b5da66c3d255d64bb77d8b80a75eb1507b3717306f", func := "example.com/fair-quota/fair-quota/zzlaws_pkg_globalbucket_b1.FnSwapScriptFollowsIndexPermutation", spec := "fnSwapScriptFollowsIndexPermutation", apart := false }
def FnSwapScriptFollowsIndexPermutationSaid : Prop := fnSwapScriptFollowsIndexPermutationRow.holds Try.pinned (OpenSpec.ofChange fnSwapScriptFollowsIndexPermutationSpec)

/-- ITS FALSE NEIGHBOUR: 'it returns false'. Refute it at one input. -/
def fnSwapScriptFollowsIndexPermutationWrong : ChangeSpec := { name := "fnSwapScriptFollowsIndexPermutation", fn := fun _ => fun
  | [d1, d2, d3] => { results := [.lit (.bool false)], args := [d1, d2, d3] }
  | _ => none }
def FnSwapScriptFollowsIndexPermutationWrongFalsely : Prop := fnSwapScriptFollowsIndexPermutationRow.holds Try.pinned (OpenSpec.ofChange fnSwapScriptFollowsIndexPermutationWrong)

/-- 'zzlaws_pkg_globalbucket_b1.FnJoinScriptMatchesFirstSeenModel': WHATEVER THE INPUT: true; the input reads as it did. -/
def fnJoinScriptMatchesFirstSeenModelSpec : ChangeSpec := { name := "fnJoinScriptMatchesFirstSeenModel", fn := fun _ => fun
  | [d1, d2, d3, d4] => { results := [.lit (.bool true)], args := [d1, d2, d3, d4] }
  | _ => none }
def fnJoinScriptMatchesFirstSeenModelRow : OpenClaim := { program := "qxb6618634a", sum := "2416d967b10ec17f9ca020b5da66c3d255d64bb77d8b80a75eb1507b3717306f", func := "example.com/fair-quota/fair-quota/zzlaws_pkg_globalbucket_b1.FnJoinScriptMatchesFirstSeenModel", spec := "fnJoinScriptMatchesFirstSeenModel", inPlace := ["math.Float64bits", "math.Float64frombits", "math/bits.Add64", "math.archMax", "math.archMin"], apart := false }
def FnJoinScriptMatchesFirstSeenModelSaid : Prop := fnJoinScriptMatchesFirstSeenModelRow.holds Try.pinned (OpenSpec.ofChange fnJoinScriptMatchesFirstSeenModelSpec)

/-- ITS FALSE NEIGHBOUR: 'it returns false'. Refute it at one input. -/
def fnJoinScriptMatchesFirstSeenModelWrong : ChangeSpec := { name := "fnJoinScriptMatchesFirstSeenModel", fn := fun _ => fun
  | [d1, d2, d3, d4] => { results := [.lit (.bool false)], args := [d1, d2, d3, d4] }
  | _ => none }
def FnJoinScriptMatchesFirstSeenModelWrongFalsely : Prop := fnJoinScriptMatchesFirstSeenModelRow.holds Try.pinned (OpenSpec.ofChange fnJoinScriptMatchesFirstSeenModelWrong)

end Rows
end Go.Proofs.Qxb6618634a
