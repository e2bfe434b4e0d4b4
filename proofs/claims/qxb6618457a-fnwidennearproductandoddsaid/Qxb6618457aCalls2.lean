import Derived.Test.Qxb6618457aCalls
namespace Go.Proofs.Qxb6618457a
open Go.ChangeShapes Go.WideShapes Go.ChangeAt Go.RowKit
set_option linter.unusedVariables false
theorem unary_neg_float (k : FloatKind) (b : Nat) : Op.unary .neg (.float k b) = pure (.float k (Op.negFloat k b)) := rfl
attribute [local go_sem] run_store_float unary_neg_float

theorem dneg_any (hi lo nh nl : Nat) (w : World) (h1 : Op.negFloat .f64 hi = nh) (h2 : Op.negFloat .f64 lo = nl) :
    Calls Try.prog 10 #[.agg #[.float .f64 hi, .float .f64 lo]] w fun en w' => en = .returned (.agg #[.float .f64 nh, .float .f64 nl]) ∧
      w' = (w.alloc (.cells #[.float .f64 hi, .float .f64 lo] 29)).alloc (.cells #[.float .f64 nh, .float .f64 nl] 29) := by
  go_enter Try.func10, Try.ntmps10
  go_wp2
  exact bodyPost_ret (v := .agg #[.float .f64 nh, .float .f64 nl]) (by simp [results, Try.results10, go_sem]) rfl ⟨rfl, rfl⟩

theorem sneg_any (hi lo nh nl : Nat) (e : Int) (w : World) (h1 : Op.negFloat .f64 hi = nh) (h2 : Op.negFloat .f64 lo = nl) :
    Calls Try.prog 8 #[.agg #[.float .f64 hi, .float .f64 lo, .int .i64 e]] w fun en w' => en = .returned (.agg #[.float .f64 nh, .float .f64 nl, .int .i64 e]) ∧ Below w.heap.size w w' := by
  have C : Hid (∀ w : World, Calls Try.prog 10 #[.agg #[.float .f64 hi, .float .f64 lo]] w fun en w' => en = .returned (.agg #[.float .f64 nh, .float .f64 nl]) ∧
      w' = (w.alloc (.cells #[.float .f64 hi, .float .f64 lo] 29)).alloc (.cells #[.float .f64 nh, .float .f64 nl] 29)) := fun w => dneg_any hi lo nh nl w h1 h2
  clear h1 h2
  go_enter Try.func8, Try.ntmps8
  go_wp2
  go_region_with (go_at_call 10; refine (C.out _).mono ?_; rintro e w' ⟨rfl, rfl⟩)
  all_goals
    go_wp2
    exact bodyPost_ret (v := .agg #[.float .f64 nh, .float .f64 nl, .int .i64 e]) (by simp [results, Try.results8, go_sem]) rfl ⟨rfl, by repeat (first | exact Below.refl _ _ | apply Below.drew | refine Below.alloc ?_ (by simp <;> omega) _)⟩

theorem below_drewN {B : Nat} {a w : World} (h : Below B a w) (n : Nat) : Below B a (w.drewN n) := ⟨h.os, h.tape, h.output, h.size, h.block⟩

set_option maxHeartbeats 400000 in
theorem zneg_any (hi lo nh nl : Nat) (e : Int) (w : World) (h1 : Op.negFloat .f64 hi = nh) (h2 : Op.negFloat .f64 lo = nl) :
    Calls Try.prog 6 #[.float .f64 hi, .float .f64 lo, .int .i64 e] w fun en w' => en = .returned (.tuple #[.float .f64 nh, .float .f64 nl, .int .i64 e]) ∧ Below w.heap.size w w' := by
  have C : Hid (∀ w : World, Calls Try.prog 8 #[.agg #[.float .f64 hi, .float .f64 lo, .int .i64 e]] w fun en w' => en = .returned (.agg #[.float .f64 nh, .float .f64 nl, .int .i64 e]) ∧ Below w.heap.size w w') := fun w => sneg_any hi lo nh nl e w h1 h2
  clear h1 h2
  go_enter Try.func6, Try.ntmps6
  go_wp2_with (go_at_call 8; refine (C.out _).mono ?_; rintro e w1 ⟨rfl, hb⟩)
  go_quiet (fail)
  go_wp2
  go_ret3
  exact ⟨rfl, below_drewN (hb.alloc hb.size _) _⟩

set_option maxHeartbeats 400000 in
theorem zwiden_any {hi lo b rh rl : Nat} (e : Int) (w : World) (h : Fp.Widened hi lo b rh rl) :
    Calls Try.prog 5 #[.float .f64 hi, .float .f64 lo, .int .i64 e, .float .f64 b] w fun en w' => en = .returned (.tuple #[.float .f64 rh, .float .f64 rl, .int .i64 e]) ∧ Below w.heap.size w w' := by
  obtain ⟨y, s, z, p, q, r, sl, t, d, h0, h1, h2, h3, h4, h5, h6, h7, h8, h9, h10⟩ := h
  have C : Hid (∀ w : World, Calls Try.prog 7 #[.agg #[.float .f64 hi, .float .f64 lo, .int .i64 e], .float .f64 b] w fun en w' => en = .returned (.agg #[.float .f64 rh, .float .f64 rl, .int .i64 e]) ∧ Below w.heap.size w w') := fun w => widen_any w h0 h1 h2 h3 h4 h5 h6 h7 h8 h9 h10
  clear h0 h1 h2 h3 h4 h5 h6 h7 h8 h9 h10
  go_enter Try.func5, Try.ntmps5
  go_wp2_with (go_at_call 7; refine (C.out _).mono ?_; rintro e w1 ⟨rfl, hb⟩)
  go_quiet (fail)
  go_wp2
  go_ret3
  exact ⟨rfl, below_drewN (hb.alloc hb.size _) _⟩

theorem abs_neg (x : Nat) (w : World) (h : Ieee.double.order x 0 = some .lt) :
    Calls Try.prog 4 #[.float .f64 x] w fun en w' => en = .returned (.float .f64 (Op.negFloat .f64 x)) ∧ w' = w := by
  have h' : (FloatKind.f64.format.order x 0 == some .lt) = true := by rw [show FloatKind.f64.format.order x 0 = some .lt from h]; rfl
  clear h
  go_enter Try.func4, Try.ntmps4
  go_wp2
  go_ret
  exact ⟨rfl, rfl⟩
theorem abs_pos (x : Nat) (w : World) (h : Ieee.double.order x 0 ≠ some .lt) :
    Calls Try.prog 4 #[.float .f64 x] w fun en w' => en = .returned (.float .f64 x) ∧ w' = w := by
  have h' : (FloatKind.f64.format.order x 0 == some .lt) = false := by
    rw [Bool.eq_false_iff]; intro hb; exact h (eq_of_beq hb)
  clear h
  go_enter Try.func4, Try.ntmps4
  go_wp2
  go_ret
  exact ⟨rfl, rfl⟩

/-- What 'zzAbs' answers. -/
def absW (x : Nat) : Nat := if Ieee.double.order x 0 = some .lt then Op.negFloat .f64 x else x
theorem abs_any (x : Nat) (w : World) : Calls Try.prog 4 #[.float .f64 x] w fun en w' => en = .returned (.float .f64 (absW x)) ∧ w' = w := by
  unfold absW
  by_cases h : Ieee.double.order x 0 = some .lt
  · rw [if_pos h]; exact abs_neg x w h
  · rw [if_neg h]; exact abs_pos x w h
end Go.Proofs.Qxb6618457a
