import Derived.Test.Qxb6618634aFind
import Derived.Laws.StructEq
namespace Go.Proofs.Qxb6618634a.JoinWalk
open Go.ChangeShapes Go.WideShapes Go.ChangeAt Go.RowKit Go.Maps
set_option linter.unusedVariables false
set_option linter.unusedSimpArgs false

theorem under42 : Try.prog.underlying 42 = some (.struct (Try.prog.fieldsOf 42)) := by kernel_rfl
theorem under44 : Try.prog.underlying 44 = some (.struct (Try.prog.fieldsOf 44)) := by kernel_rfl
theorem under46 : Try.prog.underlying 46 = some (.struct (Try.prog.fieldsOf 46)) := by kernel_rfl
theorem held46 : Try.prog.stoodInHeld 46 = false := by kernel_rfl

theorem eqF9 (w : World) : (Op.equalIn 9999 39 (.float .f64 0) (.float .f64 0)).run Try.prog w = .ok true w := by kernel_rfl
theorem eqF8 (w : World) : (Op.equalIn 9998 39 (.float .f64 0) (.float .f64 0)).run Try.prog w = .ok true w := by kernel_rfl
theorem eqP8 (w : World) : (Op.equalIn 9998 40 (.pointer none) (.pointer none)).run Try.prog w = .ok true w := by kernel_rfl
theorem neq56 (w : World) : (binOp .neq 56 (.agg (List.replicate 19 (Value.int .u64 0)).toArray) (.agg (List.replicate 19 (Value.int .u64 0)).toArray)).run Try.prog w = .ok (.bool false) w := by kernel_rfl

set_option maxHeartbeats 4000000 in
set_option maxRecDepth 100000 in
theorem neq46 (id j : Int) (w : World) : (binOp .neq 46 (.agg (inst id j)) (.agg (inst id j))).run Try.prog w = .ok (.bool false) w := by
  have h1 := eqF9
  have h2 := eqF8
  have h3 := eqP8
  unfold inst
  go_simp
end Go.Proofs.Qxb6618634a.JoinWalk
