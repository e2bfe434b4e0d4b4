import Derived.Test.Qxb6623260aRows
import Derived.WalkKit
import Derived.ProofKit
import Derived.OpenShut
import Derived.ShutString
namespace Go.Proofs.Qxb6623260a
open Go.ChangeShapes Go.WideShapes Go.ChangeAt Go.RowKit
set_option linter.unusedVariables false

set_option maxHeartbeats 1000000 in
theorem law_out (a : Int) (h : a < 44032) (w : World) :
    Calls Try.prog 3 #[.int .i32 a] w fun e w' => e = .returned (.bool true) ∧ Grown w w' := by
  go_enter Try.func3, Try.ntmps3
  go_wp2
  refine bodyPost_ret (v := .tuple #[.agg #[.int .i32 0, .int .i32 0, .int .i32 0], .bool false]) (by simp [results, Try.results5, go_sem]) rfl ?_
  go_wp2
  refine bodyPost_ret (v := .tuple #[.agg #[.int .i32 0, .int .i32 0, .int .i32 0], .bool false]) (by simp [results, Try.results4, go_sem]) rfl ?_
  go_wp2
  go_ret
  exact ⟨rfl, by repeat (first | exact Grown.refl _ | apply Grown.drew | apply Grown.alloc)⟩

set_option maxHeartbeats 1000000 in
theorem law_out2 (a : Int) (h : 55203 < a) (h' : ¬ a < 44032) (w : World) :
    Calls Try.prog 3 #[.int .i32 a] w fun e w' => e = .returned (.bool true) ∧ Grown w w' := by
  go_enter Try.func3, Try.ntmps3
  go_wp2
  refine bodyPost_ret (v := .tuple #[.agg #[.int .i32 0, .int .i32 0, .int .i32 0], .bool false]) (by simp [results, Try.results5, go_sem]) rfl ?_
  go_wp2
  refine bodyPost_ret (v := .tuple #[.agg #[.int .i32 0, .int .i32 0, .int .i32 0], .bool false]) (by simp [results, Try.results4, go_sem]) rfl ?_
  go_wp2
  go_ret
  exact ⟨rfl, by repeat (first | exact Grown.refl _ | apply Grown.drew | apply Grown.alloc)⟩

set_option maxHeartbeats 1000000 in
theorem law_in0 (a : Int) (h1 : 44032 ≤ a) (h2 : a ≤ 55203) (h0 : (a - 44032) % 28 = 0) (w : World) :
    Calls Try.prog 3 #[.int .i32 a] w fun e w' => e = .returned (.bool true) ∧ Grown w w' := by
  go_enter Try.func3, Try.ntmps3
  go_wp2
  refine bodyPost_ret (v := .tuple #[.agg #[.int .i32 (4352 + (a - 44032) / 588), .int .i32 (4449 + (a - 44032) % 588 / 28), .int .i32 0], .bool true]) (by simp [results, Try.results5, go_sem]) rfl ?_
  go_wp2
  refine bodyPost_ret (v := .tuple #[.agg #[.int .i32 (4352 + (a - 44032) / 588), .int .i32 (4449 + (a - 44032) % 588 / 28), .int .i32 0], .bool true]) (by simp [results, Try.results4, go_sem]) rfl ?_
  go_wp2
  go_ret
  exact ⟨congrArg (fun b => Ending.returned (.bool b)) (beq_iff_eq.2 (by omega)), by repeat (first | exact Grown.refl _ | apply Grown.drew | apply Grown.alloc)⟩

set_option maxHeartbeats 1000000 in
theorem law_in1 (a : Int) (h1 : 44032 ≤ a) (h2 : a ≤ 55203) (h0 : ¬ (a - 44032) % 28 = 0) (w : World) :
    Calls Try.prog 3 #[.int .i32 a] w fun e w' => e = .returned (.bool true) ∧ Grown w w' := by
  go_enter Try.func3, Try.ntmps3
  go_wp2
  refine bodyPost_ret (v := .tuple #[.agg #[.int .i32 (4352 + (a - 44032) / 588), .int .i32 (4449 + (a - 44032) % 588 / 28), .int .i32 (4519 + (a - 44032) % 28)], .bool true]) (by simp [results, Try.results5, go_sem]) rfl ?_
  go_wp2
  refine bodyPost_ret (v := .tuple #[.agg #[.int .i32 (4352 + (a - 44032) / 588), .int .i32 (4449 + (a - 44032) % 588 / 28), .int .i32 (4519 + (a - 44032) % 28)], .bool true]) (by simp [results, Try.results4, go_sem]) rfl ?_
  go_wp2
  go_ret
  exact ⟨congrArg (fun b => Ending.returned (.bool b)) (beq_iff_eq.2 (by omega)), by repeat (first | exact Grown.refl _ | apply Grown.drew | apply Grown.alloc)⟩
end Go.Proofs.Qxb6623260a
