import Derived.Test.Qxb6618457aCalls2
import Derived.Test.Qxb6618457aFinal
namespace Go.Proofs.Qxb6618457a
open Go.ChangeShapes Go.WideShapes Go.ChangeAt Go.RowKit
set_option linter.unusedVariables false

theorem absN_any (x : Nat) (w : World) : Calls Try.prog 4 #[.float .f64 x] w fun en w' => en = .returned (.float .f64 (Fp.absN x)) ∧ w' = w := abs_any x w

/-- The first test says no: |hi| is neither 0 nor at least a half. -/
theorem law_dom1 (hi lo b : Nat) (e : Int) (w : World) (t1 : (FloatKind.f64.format.order (Fp.absN hi) 0 == some .eq) = false)
    (t2 : (FloatKind.f64.format.order (Fp.absN hi) 4602678819172646912 == some .gt || FloatKind.f64.format.order (Fp.absN hi) 4602678819172646912 == some .eq) = false) :
    Calls Try.prog 3 #[.float .f64 hi, .float .f64 lo, .int .i64 e, .float .f64 b] w fun en w' => en = .returned (.bool true) ∧ Below w.heap.size w w' := by
  have A : Hid (∀ w : World, Calls Try.prog 4 #[.float .f64 hi] w fun en w' => en = .returned (.float .f64 (Fp.absN hi)) ∧ w' = w) := absN_any hi
  generalize Fp.absN hi = ah at *
  go_enter Try.func3, Try.ntmps3
  go_wp2_with fail
  refine (A.out _).mono ?_
  rintro en w1 ⟨rfl, rfl⟩
  go_wp2_with fail
  go_ret
  exact ⟨rfl, Below.refl _ _⟩

/-- The first test says no: |hi| is at least 1. -/
theorem law_dom2 (hi lo b : Nat) (e : Int) (w : World) (t1 : (FloatKind.f64.format.order (Fp.absN hi) 0 == some .eq) = false)
    (t2 : (FloatKind.f64.format.order (Fp.absN hi) 4602678819172646912 == some .gt || FloatKind.f64.format.order (Fp.absN hi) 4602678819172646912 == some .eq) = true)
    (t3 : (FloatKind.f64.format.order (Fp.absN hi) 4607182418800017408 == some .lt) = false) :
    Calls Try.prog 3 #[.float .f64 hi, .float .f64 lo, .int .i64 e, .float .f64 b] w fun en w' => en = .returned (.bool true) ∧ Below w.heap.size w w' := by
  have A : Hid (∀ w : World, Calls Try.prog 4 #[.float .f64 hi] w fun en w' => en = .returned (.float .f64 (Fp.absN hi)) ∧ w' = w) := absN_any hi
  generalize Fp.absN hi = ah at *
  go_enter Try.func3, Try.ntmps3
  go_wp2_with fail
  refine (A.out _).mono ?_
  rintro en w1 ⟨rfl, rfl⟩
  go_wp2_with fail
  go_ret
  exact ⟨rfl, Below.refl _ _⟩

/-- The second test says no, a number or an infinity being the sum. -/
theorem law_sum (hi lo b r : Nat) (e : Int) (w : World)
    (t1 : (FloatKind.f64.format.order (Fp.absN hi) 0 == some .eq) = true ∨ ((FloatKind.f64.format.order (Fp.absN hi) 0 == some .eq) = false ∧
      (FloatKind.f64.format.order (Fp.absN hi) 4602678819172646912 == some .gt || FloatKind.f64.format.order (Fp.absN hi) 4602678819172646912 == some .eq) = true ∧
      (FloatKind.f64.format.order (Fp.absN hi) 4607182418800017408 == some .lt) = true))
    (h : Ieee.double.add hi lo = some r) (t4 : (FloatKind.f64.format.order r hi != some .eq) = true) :
    Calls Try.prog 3 #[.float .f64 hi, .float .f64 lo, .int .i64 e, .float .f64 b] w fun en w' => en = .returned (.bool true) ∧ Below w.heap.size w w' := by
  have A : Hid (∀ w : World, Calls Try.prog 4 #[.float .f64 hi] w fun en w' => en = .returned (.float .f64 (Fp.absN hi)) ∧ w' = w) := absN_any hi
  have o := hopA h
  clear h
  generalize Fp.absN hi = ah at *
  rcases t1 with t1 | ⟨t1, t2, t3⟩
  all_goals
    go_enter Try.func3, Try.ntmps3
    go_wp2_with fail
    refine (A.out _).mono ?_
    rintro en w1 ⟨rfl, rfl⟩
    go_wp2_with fail
    go_ret
    exact ⟨rfl, Below.refl _ _⟩
end Go.Proofs.Qxb6618457a
