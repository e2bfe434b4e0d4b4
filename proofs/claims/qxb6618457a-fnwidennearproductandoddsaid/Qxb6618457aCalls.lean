import Derived.Test.Qxb6618457aMain
import Derived.Test.Qxb6618457aRows
import Derived.WalkKit
import Derived.ProofKit
import Derived.OpenShut
import Derived.RegionTactic
import Derived.Deep.RegionWith
import Derived.Deep.QuietTactic
import Derived.BigQuiet
import Derived.Laws.FloatArith
namespace Go.Proofs.Qxb6618457a
open Go.ChangeShapes Go.WideShapes Go.ChangeAt Go.RowKit
set_option linter.unusedVariables false

theorem run_store_float (P : Program) (w : World) (a : Addr) (m : Mode) (k : FloatKind) (b : Nat) : (store a (.float k b) m).run P w = stored P w a (.float k b) m := run_store P w a _ m rfl
attribute [local go_sem] run_store_float

theorem hopA {a b r : Nat} (h : Ieee.double.add a b = some r) : ∀ t w, (binOp .add t (.float .f64 a) (.float .f64 b)).run Try.prog w = .ok (.float .f64 r) w := fun t w => run_float_arith w .add t .f64 a b r h
theorem hopS {a b r : Nat} (h : Ieee.double.sub a b = some r) : ∀ t w, (binOp .sub t (.float .f64 a) (.float .f64 b)).run Try.prog w = .ok (.float .f64 r) w := fun t w => run_float_arith w .sub t .f64 a b r h
theorem hopM {a b r : Nat} (h : Ieee.double.mul a b = some r) : ∀ t w, (binOp .mul t (.float .f64 a) (.float .f64 b)).run Try.prog w = .ok (.float .f64 r) w := fun t w => run_float_arith w .mul t .f64 a b r h

set_option maxHeartbeats 400000 in
theorem twoSum_any {a b s z p q r e : Nat} (w : World) (h1 : Ieee.double.add a b = some s) (h2 : Ieee.double.sub s a = some z) (h3 : Ieee.double.sub s z = some p) (h4 : Ieee.double.sub a p = some q) (h5 : Ieee.double.sub b z = some r) (h6 : Ieee.double.add q r = some e) :
    Calls Try.prog 11 #[.float .f64 a, .float .f64 b] w fun en w' => en = .returned (.tuple #[.float .f64 s, .float .f64 e]) ∧ w' = w := by
  have o1 := hopA h1
  have o2 := hopS h2
  have o3 := hopS h3
  have o4 := hopS h4
  have o5 := hopS h5
  have o6 := hopA h6
  clear h1 h2 h3 h4 h5 h6
  go_enter Try.func11, Try.ntmps11
  go_wp2_with (simp only [o1, o2, o3, o4, o5, o6])
  go_ret2
  exact ⟨rfl, rfl⟩

set_option maxHeartbeats 400000 in
theorem quick_any {a b s d e : Nat} (w : World) (h1 : Ieee.double.add a b = some s) (h2 : Ieee.double.sub s a = some d) (h3 : Ieee.double.sub b d = some e) :
    Calls Try.prog 13 #[.float .f64 a, .float .f64 b] w fun en w' => en = .returned (.tuple #[.float .f64 s, .float .f64 e]) ∧ w' = w := by
  have o1 := hopA h1
  have o2 := hopS h2
  have o3 := hopS h3
  clear h1 h2 h3
  go_enter Try.func13, Try.ntmps13
  go_wp2_with (simp only [o1, o2, o3])
  go_ret2
  exact ⟨rfl, rfl⟩

set_option maxHeartbeats 400000 in
theorem pack_any (a b : Nat) (w : World) :
    Calls Try.prog 12 #[.float .f64 a, .float .f64 b] w fun en w' => en = .returned (.agg #[.float .f64 a, .float .f64 b]) ∧ w' = w.alloc (.cells #[.float .f64 a, .float .f64 b] 29) := by
  go_enter Try.func12, Try.ntmps12
  go_wp2
  exact bodyPost_ret (v := .agg #[.float .f64 a, .float .f64 b]) (by simp [results, Try.results12, go_sem]) rfl ⟨rfl, rfl⟩

set_option maxHeartbeats 400000 in
theorem addFloat_any {hi lo y s z p q r sl t rh d rl : Nat} (w : World) (h1 : Ieee.double.add hi y = some s) (h2 : Ieee.double.sub s hi = some z) (h3 : Ieee.double.sub s z = some p) (h4 : Ieee.double.sub hi p = some q) (h5 : Ieee.double.sub y z = some r) (h6 : Ieee.double.add q r = some sl)
    (h7 : Ieee.double.add lo sl = some t) (h8 : Ieee.double.add s t = some rh) (h9 : Ieee.double.sub rh s = some d) (h10 : Ieee.double.sub t d = some rl) :
    Calls Try.prog 9 #[.agg #[.float .f64 hi, .float .f64 lo], .float .f64 y] w fun en w' => en = .returned (.agg #[.float .f64 rh, .float .f64 rl]) ∧
      w' = ((w.alloc (.cells #[.float .f64 hi, .float .f64 lo] 29)).alloc (.cells #[.float .f64 rh, .float .f64 rl] 29)).alloc (.cells #[.float .f64 rh, .float .f64 rl] 29) := by
  have C1 : Hid (∀ w : World, Calls Try.prog 11 #[.float .f64 hi, .float .f64 y] w fun en w' => en = .returned (.tuple #[.float .f64 s, .float .f64 sl]) ∧ w' = w) := fun w => twoSum_any w h1 h2 h3 h4 h5 h6
  have C2 : Hid (∀ w : World, Calls Try.prog 13 #[.float .f64 s, .float .f64 t] w fun en w' => en = .returned (.tuple #[.float .f64 rh, .float .f64 rl]) ∧ w' = w) := fun w => quick_any w h8 h9 h10
  have o7 := hopA h7
  clear h1 h2 h3 h4 h5 h6 h7 h8 h9 h10
  go_enter Try.func9, Try.ntmps9
  go_wp2_with (first | (go_at_call 11; refine (C1.out _).mono ?_; rintro e w' ⟨rfl, rfl⟩) | (go_at_call 13; refine (C2.out _).mono ?_; rintro e w' ⟨rfl, rfl⟩) | (go_at_call 12; refine (pack_any _ _ _).mono ?_; rintro e w' ⟨rfl, rfl⟩))
  exact bodyPost_ret (v := .agg #[.float .f64 rh, .float .f64 rl]) (by simp [results, Try.results9, go_sem]) rfl ⟨rfl, rfl⟩

set_option maxHeartbeats 400000 in
theorem widen_any {hi lo y s z p q r sl t rh d rl b : Nat} {e : Int} (w : World) (h0 : Ieee.double.mul b hi = some y) (h1 : Ieee.double.add hi y = some s) (h2 : Ieee.double.sub s hi = some z) (h3 : Ieee.double.sub s z = some p) (h4 : Ieee.double.sub hi p = some q) (h5 : Ieee.double.sub y z = some r) (h6 : Ieee.double.add q r = some sl)
    (h7 : Ieee.double.add lo sl = some t) (h8 : Ieee.double.add s t = some rh) (h9 : Ieee.double.sub rh s = some d) (h10 : Ieee.double.sub t d = some rl) :
    Calls Try.prog 7 #[.agg #[.float .f64 hi, .float .f64 lo, .int .i64 e], .float .f64 b] w fun en w' => en = .returned (.agg #[.float .f64 rh, .float .f64 rl, .int .i64 e]) ∧ Below w.heap.size w w' := by
  have C : Hid (∀ w : World, Calls Try.prog 9 #[.agg #[.float .f64 hi, .float .f64 lo], .float .f64 y] w fun en w' => en = .returned (.agg #[.float .f64 rh, .float .f64 rl]) ∧
      w' = ((w.alloc (.cells #[.float .f64 hi, .float .f64 lo] 29)).alloc (.cells #[.float .f64 rh, .float .f64 rl] 29)).alloc (.cells #[.float .f64 rh, .float .f64 rl] 29)) := fun w => addFloat_any w h1 h2 h3 h4 h5 h6 h7 h8 h9 h10
  have o := hopM h0
  clear h0 h1 h2 h3 h4 h5 h6 h7 h8 h9 h10
  go_enter Try.func7, Try.ntmps7
  go_wp2
  go_region_with (go_at_call 9; refine (C.out _).mono ?_; rintro e w' ⟨rfl, rfl⟩)
  all_goals
    go_wp2
    exact bodyPost_ret (v := .agg #[.float .f64 rh, .float .f64 rl, .int .i64 e]) (by simp [results, Try.results7, go_sem]) rfl ⟨rfl, by repeat (first | exact Below.refl _ _ | apply Below.drew | refine Below.alloc ?_ (by simp <;> omega) _)⟩
end Go.Proofs.Qxb6618457a
