import Derived.Test.Qxb6621646aRows
import Derived.WalkKit
import Derived.ProofKit
import Derived.WalkLawsBesides
import Derived.OpenShut
import Derived.Deep.LoopGhost
import Derived.Deep.Light
import Derived.Deep.DeepCutAuto
import Derived.Test.Qxb6621646aJson
namespace Go.Proofs.Qxb6621646a.JsonWalk
open Go.ChangeShapes Go.WideShapes Go.ChangeAt Go.RowKit Json
set_option linter.unusedVariables false
set_option linter.unusedSimpArgs false

theorem ret_int {k : IntKind} {a b : Int} (h : a = b) : Ending.returned (.int k a) = .returned (.int k b) := by rw [h]
theorem ret_bool {a b : Bool} (h : a = b) : Ending.returned (.bool a) = .returned (.bool b) := by rw [h]

set_option maxHeartbeats 1000000 in
theorem step_any (s c : Int) (w : World) (hs0 : 0 ≤ s) (hs1 : s ≤ 8) (hc0 : 0 ≤ c) (hc1 : c ≤ 255) :
    Calls Try.prog 17 #[.int .i64 s, .int .u8 c] w fun e w' => e = .returned (.int .i64 (stepB s c)) ∧ w' = w := by
  have h : s = 0 ∨ s = 1 ∨ s = 2 ∨ s = 3 ∨ s = 4 ∨ s = 5 ∨ s = 6 ∨ s = 7 ∨ s = 8 := by omega
  rcases h with rfl | rfl | rfl | rfl | rfl | rfl | rfl | rfl | rfl
  all_goals
    go_enter Try.func17, Try.ntmps17
    go_wp2
    all_goals
      go_ret
      refine ⟨ret_int ?_, rfl⟩
      go_light
      try simp only [beq_iff_eq, beq_eq_false_iff_ne, ne_eq] at *
      unfold stepB dig
      simp only [Bool.and_eq_true, decide_eq_true_eq, Int.reduceEq, or_self, or_true, true_or, if_true, if_false]
      all_goals ((repeat' split) <;> omega)
end Go.Proofs.Qxb6621646a.JsonWalk
