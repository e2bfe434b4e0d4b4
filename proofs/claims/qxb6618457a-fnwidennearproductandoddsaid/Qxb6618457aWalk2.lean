import Derived.Test.Qxb6618457aWalk
namespace Go.Proofs.Qxb6618457a
open Go.ChangeShapes Go.WideShapes Go.ChangeAt Go.RowKit
set_option linter.unusedVariables false

/-- The bits that the tape gives for an invalid operation are a NaN's. -/
theorem nan_bits (x y t : Nat) (h : Nat) : Ieee.double.order (Question.cut (.nanBits .f64 x y) t) h = none := by
  have e : Question.cut (.nanBits .f64 x y) t = (t % 2) * 2 ^ 63 + (2047 * 2 ^ 52 + 1 + (t / 2) % (2 ^ 52 - 1)) := by
    show (t % 2) * 2 ^ 63 + 0x7ff0000000000000 + 1 + (t / 2) % (2 ^ 52 - 1) = _
    omega
  have hr : ∃ s f, Ieee.double.read (Question.cut (.nanBits .f64 x y) t) = .nan s f := by
    rw [e, Fp.read_eq]
    have hm : t / 2 % (2 ^ 52 - 1) < 2 ^ 52 - 1 := Nat.mod_lt _ (by omega)
    generalize t / 2 % (2 ^ 52 - 1) = m at *
    have h2 : (t % 2 * 2 ^ 63 + (2047 * 2 ^ 52 + 1 + m)) % 2 ^ 63 = 2047 * 2 ^ 52 + 1 + m := by omega
    rw [h2, if_neg (by omega), if_neg (by omega), if_neg (by omega)]
    exact ⟨_, _, rfl⟩
  obtain ⟨s, f, hr⟩ := hr
  exact Fp.order_nan hr

theorem hopNone {a b : Nat} (h : Ieee.double.add a b = none) (w : World) : ∀ t, (binOp .add t (.float .f64 a) (.float .f64 b)).run Try.prog w = .ok (.float .f64 (Question.cut (.nanBits .f64 a b) (w.tape w.drawn (.nanBits .f64 a b)))) w.drew := by
  intro t
  have h' : FloatKind.f64.format.add a b = none := h
  simp [binOp, Op.floatArith, h', Question.forced]

/-- The second test says no, the sum being a NaN. -/
theorem law_nan (hi lo b : Nat) (e : Int) (w : World)
    (t1 : (FloatKind.f64.format.order (Fp.absN hi) 0 == some .eq) = true ∨ ((FloatKind.f64.format.order (Fp.absN hi) 0 == some .eq) = false ∧
      (FloatKind.f64.format.order (Fp.absN hi) 4602678819172646912 == some .gt || FloatKind.f64.format.order (Fp.absN hi) 4602678819172646912 == some .eq) = true ∧
      (FloatKind.f64.format.order (Fp.absN hi) 4607182418800017408 == some .lt) = true))
    (h : Ieee.double.add hi lo = none) :
    Calls Try.prog 3 #[.float .f64 hi, .float .f64 lo, .int .i64 e, .float .f64 b] w fun en w' => en = .returned (.bool true) ∧ Below w.heap.size w w' := by
  have A : Hid (∀ w : World, Calls Try.prog 4 #[.float .f64 hi] w fun en w' => en = .returned (.float .f64 (Fp.absN hi)) ∧ w' = w) := absN_any hi
  have o := hopNone h w
  have t4 : (FloatKind.f64.format.order (Question.cut (.nanBits .f64 hi lo) (w.tape w.drawn (.nanBits .f64 hi lo))) hi != some .eq) = true := by
    rw [show FloatKind.f64.format.order (Question.cut (.nanBits .f64 hi lo) (w.tape w.drawn (.nanBits .f64 hi lo))) hi = none from nan_bits hi lo _ hi]; rfl
  clear h
  generalize Question.cut (.nanBits .f64 hi lo) (w.tape w.drawn (.nanBits .f64 hi lo)) = r at *
  generalize Fp.absN hi = ah at *
  rcases t1 with t1 | ⟨t1, t2, t3⟩
  all_goals
    go_enter Try.func3, Try.ntmps3
    go_wp2_with fail
    refine (A.out _).mono ?_
    rintro en w1 ⟨rfl, rfl⟩
    go_wp2_with fail
    go_ret
    exact ⟨rfl, (Below.refl _ _).drew⟩

/-- The third test says no. -/
theorem law_b (hi lo b r : Nat) (e : Int) (w : World)
    (t1 : (FloatKind.f64.format.order (Fp.absN hi) 0 == some .eq) = true ∨ ((FloatKind.f64.format.order (Fp.absN hi) 0 == some .eq) = false ∧
      (FloatKind.f64.format.order (Fp.absN hi) 4602678819172646912 == some .gt || FloatKind.f64.format.order (Fp.absN hi) 4602678819172646912 == some .eq) = true ∧
      (FloatKind.f64.format.order (Fp.absN hi) 4607182418800017408 == some .lt) = true))
    (h : Ieee.double.add hi lo = some r) (t4 : (FloatKind.f64.format.order r hi != some .eq) = false)
    (t5 : (FloatKind.f64.format.order b 18334154083025289216 == some .gt || FloatKind.f64.format.order b 18334154083025289216 == some .eq) = false ∨
      ((FloatKind.f64.format.order b 18334154083025289216 == some .gt || FloatKind.f64.format.order b 18334154083025289216 == some .eq) = true ∧
       (FloatKind.f64.format.order b 9110782046170513408 == some .lt || FloatKind.f64.format.order b 9110782046170513408 == some .eq) = false)) :
    Calls Try.prog 3 #[.float .f64 hi, .float .f64 lo, .int .i64 e, .float .f64 b] w fun en w' => en = .returned (.bool true) ∧ Below w.heap.size w w' := by
  have A : Hid (∀ w : World, Calls Try.prog 4 #[.float .f64 hi] w fun en w' => en = .returned (.float .f64 (Fp.absN hi)) ∧ w' = w) := absN_any hi
  have o := hopA h
  clear h
  generalize Fp.absN hi = ah at *
  rcases t1 with t1 | ⟨t1, t2, t3⟩
  all_goals
    rcases t5 with t5 | ⟨t5, t6⟩
    all_goals
      go_enter Try.func3, Try.ntmps3
      go_wp2_with fail
      refine (A.out _).mono ?_
      rintro en w1 ⟨rfl, rfl⟩
      go_wp2_with fail
      go_ret
      exact ⟨rfl, Below.refl _ _⟩

set_option maxHeartbeats 1000000 in
/-- The whole way. -/
theorem law_main {hi lo b r rh rl rr p1 v q1 q2 tol dd wh wl : Nat} (e : Int) (w : World)
    (t1 : (FloatKind.f64.format.order (Fp.absN hi) 0 == some .eq) = true ∨ ((FloatKind.f64.format.order (Fp.absN hi) 0 == some .eq) = false ∧
      (FloatKind.f64.format.order (Fp.absN hi) 4602678819172646912 == some .gt || FloatKind.f64.format.order (Fp.absN hi) 4602678819172646912 == some .eq) = true ∧
      (FloatKind.f64.format.order (Fp.absN hi) 4607182418800017408 == some .lt) = true))
    (h : Ieee.double.add hi lo = some r) (t4 : (FloatKind.f64.format.order r hi != some .eq) = false)
    (t5 : (FloatKind.f64.format.order b 18334154083025289216 == some .gt || FloatKind.f64.format.order b 18334154083025289216 == some .eq) = true)
    (t6 : (FloatKind.f64.format.order b 9110782046170513408 == some .lt || FloatKind.f64.format.order b 9110782046170513408 == some .eq) = true)
    (hw : Fp.Widened hi lo b rh rl) (hrr : Ieee.double.add rh rl = some rr) (t7 : (FloatKind.f64.format.order rr rh != some .eq) = false)
    (hp1 : Ieee.double.add 4607182418800017408 b = some p1) (hv : Ieee.double.mul hi p1 = some v) (hq1 : Ieee.double.add 4607182418800017408 (Fp.absN b) = some q1) (hq2 : Ieee.double.mul (Fp.absN hi) q1 = some q2) (htol : Ieee.double.mul 4386506037058863104 q2 = some tol)
    (hdd : Ieee.double.sub rh v = some dd) (t8 : (FloatKind.f64.format.order (Fp.absN dd) tol == some .gt) = false)
    (hwn : Fp.Widened (Fp.negN hi) (Fp.negN lo) b wh wl) (t9 : (FloatKind.f64.format.order wh (Fp.negN rh) == some .eq) = true) (t10 : (FloatKind.f64.format.order wl (Fp.negN rl) == some .eq) = true) :
    Calls Try.prog 3 #[.float .f64 hi, .float .f64 lo, .int .i64 e, .float .f64 b] w fun en w' => en = .returned (.bool true) ∧ Below w.heap.size w w' := by
  have A1 : Hid (∀ w : World, Calls Try.prog 4 #[.float .f64 hi] w fun en w' => en = .returned (.float .f64 (Fp.absN hi)) ∧ w' = w) := absN_any hi
  have A2 : Hid (∀ w : World, Calls Try.prog 4 #[.float .f64 b] w fun en w' => en = .returned (.float .f64 (Fp.absN b)) ∧ w' = w) := absN_any b
  have A3 : Hid (∀ w : World, Calls Try.prog 4 #[.float .f64 dd] w fun en w' => en = .returned (.float .f64 (Fp.absN dd)) ∧ w' = w) := absN_any dd
  have W1 : Hid (∀ w : World, Calls Try.prog 5 #[.float .f64 hi, .float .f64 lo, .int .i64 e, .float .f64 b] w fun en w' => en = .returned (.tuple #[.float .f64 rh, .float .f64 rl, .int .i64 e]) ∧ Below w.heap.size w w') := fun w => zwiden_any e w hw
  have W2 : Hid (∀ w : World, Calls Try.prog 5 #[.float .f64 (Fp.negN hi), .float .f64 (Fp.negN lo), .int .i64 e, .float .f64 b] w fun en w' => en = .returned (.tuple #[.float .f64 wh, .float .f64 wl, .int .i64 e]) ∧ Below w.heap.size w w') := fun w => zwiden_any e w hwn
  have N1 : Hid (∀ w : World, Calls Try.prog 6 #[.float .f64 hi, .float .f64 lo, .int .i64 e] w fun en w' => en = .returned (.tuple #[.float .f64 (Fp.negN hi), .float .f64 (Fp.negN lo), .int .i64 e]) ∧ Below w.heap.size w w') := fun w => zneg_any hi lo _ _ e w rfl rfl
  have N2 : Hid (∀ w : World, Calls Try.prog 6 #[.float .f64 rh, .float .f64 rl, .int .i64 e] w fun en w' => en = .returned (.tuple #[.float .f64 (Fp.negN rh), .float .f64 (Fp.negN rl), .int .i64 e]) ∧ Below w.heap.size w w') := fun w => zneg_any rh rl _ _ e w rfl rfl
  have o1 := hopA h
  have o2 := hopA hrr
  have o3 := hopA hp1
  have o4 := hopM hv
  have o5 := hopA hq1
  have o6 := hopM hq2
  have o7 := hopM htol
  have o8 := hopS hdd
  clear h hw hrr hp1 hv hq1 hq2 htol hdd hwn
  generalize Fp.absN hi = ah at *
  generalize Fp.absN b = ab at *
  generalize Fp.absN dd = ad at *
  generalize Fp.negN hi = nh at *
  generalize Fp.negN lo = nl at *
  generalize Fp.negN rh = mh at *
  generalize Fp.negN rl = ml at *
  rcases t1 with t1 | ⟨t1, t2, t3⟩
  all_goals
    go_enter Try.func3, Try.ntmps3
    go_wp2_with fail
    refine (A1.out _).mono ?_
    rintro en w1 ⟨rfl, rfl⟩
    go_wp2_with fail
    refine (W1.out _).mono ?_
    rintro en w2 ⟨rfl, hb2⟩
    go_wp2_with fail
    refine (A2.out _).mono ?_
    rintro en w3 ⟨rfl, rfl⟩
    go_wp2_with fail
    refine (A3.out _).mono ?_
    rintro en w4 ⟨rfl, rfl⟩
    go_wp2_with fail
    refine (N1.out _).mono ?_
    rintro en w5 ⟨rfl, hb5⟩
    go_wp2_with fail
    refine (W2.out _).mono ?_
    rintro en w6 ⟨rfl, hb6⟩
    go_wp2_with fail
    refine (N2.out _).mono ?_
    rintro en w7 ⟨rfl, hb7⟩
    go_wp2_with fail
    go_ret
    exact ⟨rfl, hb2.trans ((hb5.mono hb2.size).trans ((hb6.mono (Nat.le_trans hb2.size hb5.size)).trans (hb7.mono (Nat.le_trans hb2.size (Nat.le_trans hb5.size hb6.size)))))⟩
end Go.Proofs.Qxb6618457a
