import Derived.Test.Qxb6618457aFacts
namespace Go.Proofs.Qxb6618457a.Fp
open Ieee

theorem pI (k : Nat) : ((2 ^ k : Nat) : Int) = (2 : Int) ^ k := by rw [Int.natCast_pow]; rfl

theorem pwI (a b c : Nat) (h : c = a + b) : (2 : Int) ^ a * 2 ^ b = 2 ^ c := by subst h; rw [Int.pow_add]

theorem natAbs_pw (k : Nat) : ((2 : Int) ^ k).natAbs = 2 ^ k := by rw [← pI, Int.natAbs_natCast]
theorem natAbs_pw_le (a b : Nat) (h : a ≤ b) : ((2 : Int) ^ a).natAbs ≤ 2 ^ b := by rw [natAbs_pw]; exact Nat.pow_le_pow_right (by omega) h
theorem pw_le (a b : Nat) (h : a ≤ b) : 2 ^ a ≤ 1 * 2 ^ b := by rw [Nat.one_mul]; exact Nat.pow_le_pow_right (by omega) h

/-- A number written, at a place that is not below the least: rounded, or an infinity. -/
theorem write_or (t : Int) (neg : Bool) (base : Int) (hn : t ≠ 0 → neg = decide (t < 0)) (hbase : -1074 ≤ base) :
    Is (double.nearest neg t.natAbs base) (rnd (t * 2 ^ (base + 1074).toNat)) ∨ ∃ s, double.read (double.nearest neg t.natAbs base) = .infinity s := by
  have ha : (t * 2 ^ (base + 1074).toNat).natAbs = t.natAbs * 2 ^ (base + 1074).toNat := natAbs_scale _ _
  rcases nearest_or neg t.natAbs (base + 1074).toNat 0 base (by omega) with h | h
  · left
    have e : rnd (t * 2 ^ (base + 1074).toNat) = (if neg then -(rndN 0 (t.natAbs * 2 ^ (base + 1074).toNat) : Int) else (rndN 0 (t.natAbs * 2 ^ (base + 1074).toNat) : Int)) := by
      unfold rnd
      rw [ha]
      by_cases h0 : t = 0
      · subst h0
        rw [Int.zero_mul, if_neg (by omega), Int.natAbs_zero, Nat.zero_mul]
        have := rd_zero
        unfold rd at *
        rw [this]
        cases neg <;> rfl
      · rw [hn h0]
        have hpos : (0 : Int) < 2 ^ (base + 1074).toNat := by
          have h1 := pI (base + 1074).toNat
          have h2 := pow_pos' (base + 1074).toNat
          omega
        by_cases hlt : t < 0
        · have : t * 2 ^ (base + 1074).toNat < 0 := Int.mul_neg_of_neg_of_pos hlt hpos
          rw [if_pos this, decide_eq_true hlt, if_pos rfl]; rfl
        · have : 0 ≤ t * 2 ^ (base + 1074).toNat := Int.mul_nonneg (by omega) (by omega)
          rw [if_neg (by omega), decide_eq_false hlt, if_neg (by simp)]; rfl
    rw [e]; exact h
  · exact Or.inr h

theorem add_or {x y r : Nat} {a b : Int} (hx : Is x a) (hy : Is y b) (h : double.add x y = some r) : Is r (rnd (a + b)) ∨ ∃ s, double.read r = .infinity s := by
  obtain ⟨s, m, i, hr, -, hi, rfl⟩ := hx
  obtain ⟨t, n, j, hr', -, hj, rfl⟩ := hy
  unfold Format.add at h
  rw [hr, hr'] at h
  simp only [Datum.sum, Option.map, Format.write, Option.some.injEq] at h
  subst h
  have e : (signed s m (i - min i j).toNat + signed t n (j - min i j).toNat) * 2 ^ (min i j + 1074).toNat = signed s m (i + 1074).toNat + signed t n (j + 1074).toNat := by
    rw [Int.add_mul, scale_signed _ _ _ _ (by omega) (by omega), scale_signed _ _ _ _ (by omega) (by omega)]
  rw [← e]
  exact write_or _ _ _ (fun h0 => by rw [if_neg h0]) (by omega)

/-- The second test. -/
theorem lo_is {hi lo r : Nat} {H : Int} (hH : Is hi H) (hadd : double.add hi lo = some r) (heq : double.order r hi = some .eq) : ∃ L, Is lo L ∧ rnd (H + L) = H := by
  cases hr : double.read lo with
  | number s m i =>
    obtain ⟨L, hL⟩ := of_number hr
    refine ⟨L, hL, ?_⟩
    rcases add_or hH hL hadd with h | ⟨s, h⟩
    · rw [is_order h hH] at heq
      exact cmp_eq.1 (Option.some.inj heq)
    · rw [order_inf h hH] at heq
      cases s <;> exact absurd heq (by decide)
  | infinity s =>
    exfalso
    obtain ⟨t, n, j, hr', -, -, -⟩ := id hH
    unfold Format.add at hadd
    rw [hr, hr'] at hadd
    simp only [Datum.sum, Option.map, Format.write, Option.some.injEq] at hadd
    subst hadd
    rw [ir] at heq
    rw [order_inf (word_inf s) hH] at heq
    cases s <;> exact absurd heq (by decide)
  | nan s f =>
    exfalso
    obtain ⟨t, n, j, hr', -, -, -⟩ := id hH
    unfold Format.add at hadd
    rw [hr, hr'] at hadd
    simp [Datum.sum] at hadd

theorem wY_zero (B : Int) : wY 0 B = 0 := by unfold wY rndM; rw [Int.mul_zero, if_neg (by omega), Int.natAbs_zero, rndN_zero]; rfl
theorem rndM_zero : rndM 0 = 0 := by unfold rndM; rw [if_neg (by omega), Int.natAbs_zero, rndN_zero]; rfl

/-- The fast sum's condition, in the law's domain. -/
theorem fast_dom {H L B : Int} (rH : Rep H) (rL : Rep L) (hH : H = 0 ∨ (2 ^ 1073 ≤ H.natAbs ∧ H.natAbs < 2 ^ 1074)) (hL : rnd (H + L) = H) :
    (wT H L B).natAbs ≤ (wS H B).natAbs ∨ wS H B = 0 := by
  rcases hH with rfl | ⟨h1, h2⟩
  · right; unfold wS; rw [wY_zero, Int.add_zero, rnd_zero]
  · rw [pw 53 1020 1073 rfl] at h1
    rw [pw 54 1020 1074 rfl] at h2
    have hl := lo_small h2 hL
    have rY : Rep (wY H B) := by
      unfold wY rndM
      have hr : ∀ n, RepN (rndN 1074 n) := fun n => ⟨kOf 1074 n - 1074, ⟨_, by rw [rndN, Nat.mul_comm]⟩, by rw [rndN]; exact Nat.mul_le_mul_right _ (rn_le 1074 n)⟩
      split
      · unfold Rep; rw [Int.natAbs_neg, Int.natAbs_natCast]; exact hr _
      · unfold Rep; rw [Int.natAbs_natCast]; exact hr _
    exact fast_ok rH rL rY h1 hl

theorem bounds (n : Int) (k : Nat) (hk : k ≤ 1000) (h : n.natAbs ≤ k * 2 ^ 2074) : n.natAbs < 2 ^ 2096 := by
  rw [pw 22 2074 2096 rfl]
  have h1 := Nat.mul_le_mul_right (2 ^ 2074) hk
  have h2 := pow_pos' 2074
  generalize 2 ^ 2074 = W at *
  generalize k * W = v at *
  omega

/-- THE NEARNESS, in the law's own steps. -/
theorem near {H L B : Int} (hH : H = 0 ∨ (2 ^ 1073 ≤ H.natAbs ∧ H.natAbs < 2 ^ 1074)) (rL : Rep L) (hL : rnd (H + L) = H) :
    ((wR H L B - rndM (H * rnd (2 ^ 1074 + B))).natAbs : Int) ≤ rndM (2 ^ 1025 * rndM ((H.natAbs : Int) * rnd (2 ^ 1074 + (B.natAbs : Int)))) := by
  rcases hH with rfl | ⟨h1, h2⟩
  · rw [Int.zero_add, rnd_of_rep rL] at hL
    subst hL
    have e : wR 0 0 B = 0 := by
      unfold wR wT wS
      rw [wY_zero, Int.add_zero, rnd_zero, Int.sub_self, Int.add_zero, rnd_zero, Int.add_zero, rnd_zero]
    rw [e, Int.zero_mul, rndM_zero, Int.natAbs_zero, Int.natCast_zero, Int.zero_mul, rndM_zero, Int.mul_zero, rndM_zero]
    decide
  · have hc : (2 : Int) ^ 49 * 2 ^ 1025 = ((2 ^ 1074 : Nat) : Int) := (pwI 49 1025 1074 rfl).trans (pI 1074).symm
    have h200 : 2 ^ 200 ≤ H.natAbs := Nat.le_trans (Nat.pow_le_pow_right (by omega) (by omega)) h1
    have eL := rnd_err (H + L)
    rw [hL, show H - (H + L) = -L from by omega, Int.natAbs_neg] at eL
    refine near_core (H := H) (L := L) (B := B) (Y := wY H B) (S := wS H B) (T := wT H L B) (R := wR H L B) (P := rnd (2 ^ 1074 + B)) (Q1 := rnd (2 ^ 1074 + (B.natAbs : Int)))
      (Q2 := rndM ((H.natAbs : Int) * rnd (2 ^ 1074 + (B.natAbs : Int)))) (c := 2 ^ 1025) (U := 2 ^ 1074) h200 ?_ (rnd_err _) (rnd_err _) (rnd_err _) eL ?_ ?_ ?_ ?_ ?_ hc (pow_pos' 1074)
    · have h := rndM_err (B * H); rw [← pI 1074] at h; exact h
    · rw [← pI 1074]; exact rnd_err _
    · have h := rndM_err (H * rnd (2 ^ 1074 + B)); rw [← pI 1074] at h; rw [← pI 1074]; exact h
    · rw [← pI 1074]; exact rnd_err _
    · have h := rndM_err ((H.natAbs : Int) * rnd (2 ^ 1074 + (B.natAbs : Int))); rw [← pI 1074] at h; rw [← pI 1074]; exact h
    · have h := rndM_err (2 ^ 1025 * rndM ((H.natAbs : Int) * rnd (2 ^ 1074 + (B.natAbs : Int)))); rw [← pI 1074] at h; rw [← pI 1074]; exact h

theorem mulM_le {H P : Int} (hH : H.natAbs ≤ 2 ^ 1074) : (rndM (H * P)).natAbs ≤ 2 * P.natAbs + 1 := by
  have := wY_le (B := P) hH
  unfold wY at this
  rwa [Int.mul_comm] at this

theorem widened_lt {hi lo b rh rl : Nat} (h : Widened hi lo b rh rl) : rh < 2 ^ 64 ∧ rl < 2 ^ 64 := by
  obtain ⟨y, s, z, p, q, r, sl, t, d, -, -, -, -, -, -, -, -, hrh, -, hrl⟩ := h
  exact ⟨double.add_lt hrh, double.sub_lt hrl⟩

/-- ALL THAT THE LAW's WALK ASKS. -/
theorem main_facts {hi lo b r : Nat} (lhi : hi < 2 ^ 64) (llo : lo < 2 ^ 64) (lb : b < 2 ^ 64)
    (hc : double.order (absN hi) 0 = some .eq ∨ ((double.order (absN hi) 4602678819172646912 = some .gt ∨ double.order (absN hi) 4602678819172646912 = some .eq) ∧ double.order (absN hi) 4607182418800017408 = some .lt))
    (hadd : double.add hi lo = some r) (heq : double.order r hi = some .eq)
    (hb1 : double.order b 18334154083025289216 = some .gt ∨ double.order b 18334154083025289216 = some .eq) (hb2 : double.order b 9110782046170513408 = some .lt ∨ double.order b 9110782046170513408 = some .eq) :
    ∃ rh rl rr p1 v q1 q2 tol dd wh wl, Widened hi lo b rh rl ∧ double.add rh rl = some rr ∧ double.order rr rh = some .eq ∧
      double.add 4607182418800017408 b = some p1 ∧ double.mul hi p1 = some v ∧ double.add 4607182418800017408 (absN b) = some q1 ∧ double.mul (absN hi) q1 = some q2 ∧ double.mul 4386506037058863104 q2 = some tol ∧
      double.sub rh v = some dd ∧ double.order (absN dd) tol ≠ some .gt ∧
      Widened (negN hi) (negN lo) b wh wl ∧ double.order wh (negN rh) = some .eq ∧ double.order wl (negN rl) = some .eq := by
  obtain ⟨H, iH, dH⟩ := dom_is lhi hc
  obtain ⟨L, iL, hL⟩ := lo_is iH hadd heq
  obtain ⟨B, iB, b1, b2⟩ := b_is hb1 hb2
  have dH' : H = 0 ∨ (2 ^ 1073 ≤ H.natAbs ∧ H.natAbs < 2 ^ 1074) := by
    rcases dH with h | ⟨h1, h2⟩
    · exact Or.inl h
    · right
      rw [← pI] at h1 h2
      exact ⟨Int.ofNat_le.1 h1, Int.ofNat_lt.1 h2⟩
  have bH' : H.natAbs ≤ 2 ^ 1074 := by
    rcases dH' with rfl | ⟨-, h⟩
    · exact Nat.zero_le _
    · exact Nat.le_of_lt h
  have hUW : 2 ^ 1074 ≤ 1 * 2 ^ 2074 := pw_le 1074 2074 (by omega)
  have bB : B.natAbs ≤ 1 * 2 ^ 2074 := by
    rw [← pI] at b1 b2
    generalize 2 ^ 2074 = W at *
    omega
  have hW1 : 1 ≤ 2 ^ 2074 := pow_pos' 2074
  have bL : L.natAbs ≤ 1 * 2 ^ 2074 := by
    have := rnd_err (H + L)
    rw [hL, show H - (H + L) = -L from by omega, Int.natAbs_neg] at this
    have ht := tri (a := H) (b := L) rfl
    generalize (H + L).natAbs = x at *
    generalize 2 ^ 1074 = U at *
    generalize 2 ^ 2074 = W at *
    omega
  have bH : H.natAbs ≤ 1 * 2 ^ 2074 := Nat.le_trans bH' hUW
  have bU : ((2 : Int) ^ 1074).natAbs ≤ 1 * 2 ^ 2074 := by rw [← pI, Int.natAbs_natCast]; exact hUW
  obtain ⟨rh, rl, hw, iR, iRl, bR⟩ := widened bounds hW1 iH iL iB bH bH' bL bB (fast_dom iH.rep iL.rep dH' hL)
  obtain ⟨lrh, lrl⟩ := widened_lt hw
  obtain ⟨rr, hrr, iRR⟩ := is_add iR iRl (by rw [norm]; exact bounds _ 68 (by decide) bR)
  rw [norm] at iRR
  have bP := bRnd (bAdd bU bB)
  obtain ⟨p1, hp1, iP⟩ := is_add is_one iB (bounds _ _ (by decide) bP)
  have bV : (rndM (H * rnd (2 ^ 1074 + B))).natAbs ≤ 9 * 2 ^ 2074 := by
    have := mulM_le (P := rnd (2 ^ 1074 + B)) bH'
    generalize (rndM (H * rnd (2 ^ 1074 + B))).natAbs = x at *
    generalize (rnd (2 ^ 1074 + B)).natAbs = y at *
    generalize 2 ^ 2074 = W at *
    omega
  obtain ⟨v, hv, iV⟩ := is_mul iH iP (bounds _ _ (by decide) bV)
  obtain ⟨iAb, lAb⟩ := abs_is iB lb
  obtain ⟨iAh, lAh⟩ := abs_is iH lhi
  have bB' : ((B.natAbs : Int)).natAbs ≤ 1 * 2 ^ 2074 := by rw [Int.natAbs_natCast]; exact bB
  have bQ1 := bRnd (bAdd bU bB')
  obtain ⟨q1, hq1, iQ1⟩ := is_add is_one iAb (bounds _ _ (by decide) bQ1)
  have bQ2 : (rndM ((H.natAbs : Int) * rnd (2 ^ 1074 + (B.natAbs : Int)))).natAbs ≤ 9 * 2 ^ 2074 := by
    have := mulM_le (H := (H.natAbs : Int)) (P := rnd (2 ^ 1074 + (B.natAbs : Int))) (by rw [Int.natAbs_natCast]; exact bH')
    generalize (rndM ((H.natAbs : Int) * rnd (2 ^ 1074 + (B.natAbs : Int)))).natAbs = x at *
    generalize (rnd (2 ^ 1074 + (B.natAbs : Int))).natAbs = y at *
    generalize 2 ^ 2074 = W at *
    omega
  obtain ⟨q2, hq2, iQ2⟩ := is_mul iAh iQ1 (bounds _ _ (by decide) bQ2)
  have bT : (rndM (2 ^ 1025 * rndM ((H.natAbs : Int) * rnd (2 ^ 1074 + (B.natAbs : Int))))).natAbs ≤ 19 * 2 ^ 2074 := by
    have := mulM_le (H := 2 ^ 1025) (P := rndM ((H.natAbs : Int) * rnd (2 ^ 1074 + (B.natAbs : Int)))) (natAbs_pw_le 1025 1074 (by omega))
    generalize (rndM (2 ^ 1025 * rndM ((H.natAbs : Int) * rnd (2 ^ 1074 + (B.natAbs : Int))))).natAbs = x at *
    generalize (rndM ((H.natAbs : Int) * rnd (2 ^ 1074 + (B.natAbs : Int)))).natAbs = y at *
    generalize 2 ^ 2074 = W at *
    omega
  obtain ⟨tol, htol, iTol⟩ := is_mul is_c49 iQ2 (bounds _ _ (by decide) bT)
  have bD := bRnd (bSub bR bV)
  obtain ⟨dd, hdd, iD⟩ := is_sub iR iV (bounds _ _ (by decide) bD)
  have ldd : dd < 2 ^ 64 := double.sub_lt hdd
  obtain ⟨iAd, -⟩ := abs_is iD ldd
  have hnear := near (B := B) dH' iL.rep hL
  have hlast : double.order (absN dd) tol ≠ some .gt := by
    rw [is_order iAd iTol]
    intro e
    have hgt := cmp_gt.1 (Option.some.inj e)
    have h0 : 0 ≤ rndM (2 ^ 1025 * rndM ((H.natAbs : Int) * rnd (2 ^ 1074 + (B.natAbs : Int)))) := Int.le_trans (Int.natCast_nonneg _) hnear
    have hm := rd_mono (wR H L B - rndM (H * rnd (2 ^ 1074 + B))).natAbs (rndM (2 ^ 1025 * rndM ((H.natAbs : Int) * rnd (2 ^ 1074 + (B.natAbs : Int))))).natAbs (by
      generalize rndM (2 ^ 1025 * rndM ((H.natAbs : Int) * rnd (2 ^ 1074 + (B.natAbs : Int)))) = t at *
      generalize (wR H L B - rndM (H * rnd (2 ^ 1074 + B))).natAbs = u at *
      omega)
    rw [rd_of_repN iTol.rep, ← rnd_natAbs] at hm
    generalize rndM (2 ^ 1025 * rndM ((H.natAbs : Int) * rnd (2 ^ 1074 + (B.natAbs : Int)))) = t at *
    generalize (rnd (wR H L B - rndM (H * rnd (2 ^ 1074 + B)))).natAbs = u at *
    omega
  have iNh := (is_neg iH lhi).1
  have iNl := (is_neg iL llo).1
  have hLn : rnd (-H + -L) = -H := by rw [show -H + -L = -(H + L) from by omega, rnd_neg, hL]
  have dHn : -H = 0 ∨ (2 ^ 1073 ≤ (-H).natAbs ∧ (-H).natAbs < 2 ^ 1074) := by
    rw [Int.natAbs_neg]
    rcases dH' with h | h
    · left; omega
    · exact Or.inr h
  obtain ⟨wh, wl, hwn, iW, iWl, -⟩ := widened bounds hW1 iNh iNl iB (by rw [Int.natAbs_neg]; exact bH) (by rw [Int.natAbs_neg]; exact bH') (by rw [Int.natAbs_neg]; exact bL) bB (fast_dom iNh.rep iNl.rep dHn hLn)
  rw [wR_neg] at iW
  rw [wL_neg] at iWl
  refine ⟨rh, rl, rr, p1, v, q1, q2, tol, dd, wh, wl, hw, hrr, ?_, hp1, hv, hq1, hq2, htol, hdd, hlast, hwn, ?_, ?_⟩
  · rw [is_order iRR iR]; exact congrArg some (cmp_eq.2 rfl)
  · rw [is_order iW (show Is (negN rh) _ from (is_neg iR lrh).1)]; exact congrArg some (cmp_eq.2 rfl)
  · rw [is_order iWl (show Is (negN rl) _ from (is_neg iRl lrl).1)]; exact congrArg some (cmp_eq.2 rfl)

end Go.Proofs.Qxb6618457a.Fp
