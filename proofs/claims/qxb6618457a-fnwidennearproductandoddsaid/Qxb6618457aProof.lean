import Derived.Test.Qxb6618457aWalk2
import Derived.ProofKit
import Derived.OpenShut
import Derived.Laws.Cover2
namespace Go.Proofs.Qxb6618457a
open Go.ChangeShapes Go.WideShapes Go.ChangeAt Go.RowKit
set_option linter.unusedVariables false

theorem or_beq {x : Option Ordering} {a c : Ordering} (h : (x == some a || x == some c) = true) : x = some a ∨ x = some c := by
  rw [Bool.or_eq_true] at h
  rcases h with h | h
  · exact Or.inl (eq_of_beq h)
  · exact Or.inr (eq_of_beq h)

/-- THE LAW, where the first test says yes. -/
theorem law_in (hi lo b : Nat) (e : Int) (w : World) (lhi : hi < 2 ^ 64) (llo : lo < 2 ^ 64) (lb : b < 2 ^ 64)
    (t1 : (FloatKind.f64.format.order (Fp.absN hi) 0 == some .eq) = true ∨ ((FloatKind.f64.format.order (Fp.absN hi) 0 == some .eq) = false ∧
      (FloatKind.f64.format.order (Fp.absN hi) 4602678819172646912 == some .gt || FloatKind.f64.format.order (Fp.absN hi) 4602678819172646912 == some .eq) = true ∧
      (FloatKind.f64.format.order (Fp.absN hi) 4607182418800017408 == some .lt) = true))
    (hc : Ieee.double.order (Fp.absN hi) 0 = some .eq ∨ ((Ieee.double.order (Fp.absN hi) 4602678819172646912 = some .gt ∨ Ieee.double.order (Fp.absN hi) 4602678819172646912 = some .eq) ∧ Ieee.double.order (Fp.absN hi) 4607182418800017408 = some .lt)) :
    Calls Try.prog 3 #[.float .f64 hi, .float .f64 lo, .int .i64 e, .float .f64 b] w fun en w' => en = .returned (.bool true) ∧ Below w.heap.size w w' := by
  cases hadd : Ieee.double.add hi lo with
  | none => exact law_nan hi lo b e w t1 hadd
  | some r =>
    cases t4 : (FloatKind.f64.format.order r hi != some .eq)
    case true => exact law_sum hi lo b r e w t1 hadd t4
    have heq : Ieee.double.order r hi = some .eq := by
      have h := t4
      rw [bne_eq_false_iff_eq] at h
      exact h
    cases t5 : (FloatKind.f64.format.order b 18334154083025289216 == some .gt || FloatKind.f64.format.order b 18334154083025289216 == some .eq)
    case false => exact law_b hi lo b r e w t1 hadd t4 (Or.inl t5)
    cases t6 : (FloatKind.f64.format.order b 9110782046170513408 == some .lt || FloatKind.f64.format.order b 9110782046170513408 == some .eq)
    case false => exact law_b hi lo b r e w t1 hadd t4 (Or.inr ⟨t5, t6⟩)
    obtain ⟨rh, rl, rr, p1, v, q1, q2, tol, dd, wh, wl, hw, hrr, t7, hp1, hv, hq1, hq2, htol, hdd, t8, hwn, t9, t10⟩ := Fp.main_facts lhi llo lb hc hadd heq (or_beq t5) (or_beq t6)
    refine law_main e w t1 hadd t4 t5 t6 hw hrr ?_ hp1 hv hq1 hq2 htol hdd ?_ hwn ?_ ?_
    · exact bne_eq_false_iff_eq.2 t7
    · exact beq_eq_false_iff_ne.2 t8
    · exact beq_iff_eq.2 t9
    · exact beq_iff_eq.2 t10

/-- THE LAW, for every input. -/
theorem law_any (hi lo b : Nat) (e : Int) (w : World) (lhi : hi < 2 ^ 64) (llo : lo < 2 ^ 64) (lb : b < 2 ^ 64) :
    Calls Try.prog 3 #[.float .f64 hi, .float .f64 lo, .int .i64 e, .float .f64 b] w fun en w' => en = .returned (.bool true) ∧ Below w.heap.size w w' := by
  cases t1 : (FloatKind.f64.format.order (Fp.absN hi) 0 == some .eq)
  case false =>
    cases t2 : (FloatKind.f64.format.order (Fp.absN hi) 4602678819172646912 == some .gt || FloatKind.f64.format.order (Fp.absN hi) 4602678819172646912 == some .eq)
    case false => exact law_dom1 hi lo b e w t1 t2
    cases t3 : (FloatKind.f64.format.order (Fp.absN hi) 4607182418800017408 == some .lt)
    case false => exact law_dom2 hi lo b e w t1 t2 t3
    exact law_in hi lo b e w lhi llo lb (Or.inr ⟨t1, t2, t3⟩) (Or.inr ⟨or_beq t2, eq_of_beq t3⟩)
  exact law_in hi lo b e w lhi llo lb (Or.inl t1) (Or.inl (eq_of_beq t1))

theorem own : ownKnob Try.prog.godebug = none := by kernel_rfl

theorem wf_lt {b : Nat} (h : (Lit.float .f64 b).wf = true) : b < 2 ^ 64 := by simpa [Lit.wf] using h

set_option maxRecDepth 100000 in
theorem lifted (os : Os) (started : os.Started) (H : Type) (enc : TypeId × Value → H) :
    ReturnsInHanded {} Try.checked os 3 .any (Rows.fnWidenNearProductAndOddSpec.pre6 enc Try.prog Try.f3 Rows.fnWidenNearProductAndOddRow.domain false) (Rows.fnWidenNearProductAndOddSpec.post enc Try.prog Try.f3 false true false false) := by
  refine returnsInHanded_of_change (C := Try.checked) own started (by kernel_rfl) Try.func3
    (ChangeSpec.witness6 (enc := enc) (C := Try.checked) false ⟨#[], #[.float .f64 0, .float .f64 0, .int .i64 0, .float .f64 0], []⟩ 8 (by kernel_rfl) (by kernel_rfl) (by kernel_rfl) (by kernel_rfl)) ?_
  intro W base args ds gs before hval0 hW hcnd _
  have hval : ∀ (j : Nat) t v, Try.f3.params[j]? = some t → args[j]? = some v → Value.okWide Try.prog W .any base t v := hval0
  have hW' := hW
  obtain ⟨p, q, hA0, hV, rfl, hfz, hnd⟩ := hW
  have hA : DataW.TrodAll enc Try.prog W 0 (fun _ => true) true Try.f3.params.toList args.toList ds p := hA0
  rw [Try.params3] at hA hval
  obtain ⟨v0, v1, v2, v3, d0, d1, d2, d3, p0, p1, p2, p3, rfl, rfl, rfl, h0, h1, h2, h3⟩ := trodAll_four hA
  obtain ⟨rfl, rfl⟩ := trodVars_none hV
  obtain ⟨hi, rfl, rfl, rfl, w0⟩ := open_float Try.underlying22 (hval 0 22 v0 rfl rfl) h0
  obtain ⟨lo, rfl, rfl, rfl, w1⟩ := open_float Try.underlying22 (hval 1 22 v1 rfl rfl) h1
  obtain ⟨e, rfl, rfl, rfl, w2⟩ := open_int Try.underlying2 (hval 2 2 v2 rfl rfl) h2
  obtain ⟨b, rfl, rfl, rfl, w3⟩ := open_float Try.underlying22 (hval 3 22 v3 rfl rfl) h3
  clear hA0 hval0
  simp only [List.append_nil] at hW'
  refine (law_any hi lo b e W (wf_lt w0) (wf_lt w1) (wf_lt w3)).mono fun en W' ⟨he, hb⟩ => ?_
  subst he
  exact ⟨_, rfl, _, _, _, [], [], [], hW', trodAll_mk1 (shut_bool Try.underlying4 _), trodAll_mk4 (shut_float Try.underlying22 w0) (shut_float Try.underlying22 w1) (shut_int Try.underlying2 w2) (shut_float Try.underlying22 w3), rfl, hb.frame _, fun h => by cases h⟩

/-- THE STATEMENT. -/
theorem proved : Rows.FnWidenNearProductAndOddSaid :=
  OpenClaim.holds_of_wide 3 Try.f3 rfl rfl rfl rfl rfl rfl rfl ⟨rfl, rfl, rfl, rfl, rfl⟩ rfl rfl rfl rfl rfl (by kernel_rfl) Try.func3 (by kernel_rfl)
    (of_decide_eq_true (by kernel_rfl)) (by unfold Func.isWrapper; first | (rw [if_pos (by decide +kernel)]; kernel_rfl) | (rw [if_neg (by decide +kernel)]; exact ⟨rfl, rfl⟩))
    (fun os started H enc _ => lifted os started H enc)
#print axioms proved
end Go.Proofs.Qxb6618457a
