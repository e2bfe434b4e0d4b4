import Derived.Test.Qxb6618457aNear
namespace Go.Proofs.Qxb6618457a.Fp
open Ieee

theorem pw (a b c : Nat) (h : c = a + b) : 2 ^ c = 2 ^ a * 2 ^ b := by subst h; exact Nat.pow_add 2 a b

def wY (H B : Int) : Int := rndM (B * H)
def wS (H B : Int) : Int := rnd (H + wY H B)
def wT (H L B : Int) : Int := rnd (L + (H + wY H B - wS H B))
def wR (H L B : Int) : Int := rnd (wS H B + wT H L B)
def wL (H L B : Int) : Int := wS H B + wT H L B - wR H L B

theorem wY_neg (H B : Int) : wY (-H) B = -wY H B := by unfold wY; rw [Int.mul_neg, rndM_neg]
theorem wS_neg (H B : Int) : wS (-H) B = -wS H B := by
  unfold wS; rw [wY_neg, show -H + -wY H B = -(H + wY H B) from by omega, rnd_neg]
theorem wT_neg (H L B : Int) : wT (-H) (-L) B = -wT H L B := by
  unfold wT; rw [wY_neg, wS_neg, show -L + (-H + -wY H B - -wS H B) = -(L + (H + wY H B - wS H B)) from by omega, rnd_neg]
theorem wR_neg (H L B : Int) : wR (-H) (-L) B = -wR H L B := by
  unfold wR; rw [wS_neg, wT_neg, show -wS H B + -wT H L B = -(wS H B + wT H L B) from by omega, rnd_neg]
theorem wL_neg (H L B : Int) : wL (-H) (-L) B = -wL H L B := by
  unfold wL; rw [wS_neg, wT_neg, wR_neg]; omega

/-- The steps of 'widen', word by word. -/
def Widened (hi lo b rh rl : Nat) : Prop :=
  ∃ y s z p q r sl t d, double.mul b hi = some y ∧ double.add hi y = some s ∧ double.sub s hi = some z ∧ double.sub s z = some p ∧ double.sub hi p = some q ∧ double.sub y z = some r ∧
    double.add q r = some sl ∧ double.add lo sl = some t ∧ double.add s t = some rh ∧ double.sub rh s = some d ∧ double.sub t d = some rl

theorem natAbs_scale (x : Int) (D : Nat) : (x * 2 ^ D).natAbs = x.natAbs * 2 ^ D := by rw [Int.natAbs_mul, Int.natAbs_pow]; rfl

theorem bAdd {W k j : Nat} {x y : Int} (hx : x.natAbs ≤ k * W) (hy : y.natAbs ≤ j * W) : (x + y).natAbs ≤ (k + j) * W := by
  have := Int.natAbs_add_le x y; rw [Nat.add_mul]; omega
theorem bSub {W k j : Nat} {x y : Int} (hx : x.natAbs ≤ k * W) (hy : y.natAbs ≤ j * W) : (x - y).natAbs ≤ (k + j) * W := by
  have := tri' (a := x) (b := y) rfl; rw [Nat.add_mul]; omega
theorem bRnd {W k : Nat} {x : Int} (hx : x.natAbs ≤ k * W) : (rnd x).natAbs ≤ (2 * k) * W := by
  have := rnd_le2 x; rw [Nat.mul_assoc]; omega

theorem wY_le {H B : Int} (hH : H.natAbs ≤ 2 ^ 1074) : (wY H B).natAbs ≤ 2 * B.natAbs + 1 := by
  have h := rndM_err (B * H)
  have hU : 0 < 2 ^ 1074 := pow_pos' 1074
  have hm : (B * H).natAbs ≤ B.natAbs * 2 ^ 1074 := by rw [Int.natAbs_mul]; exact Nat.mul_le_mul_left _ hH
  have ht := tri (a := B * H) (b := rndM (B * H) * 2 ^ 1074 - B * H) (c := rndM (B * H) * 2 ^ 1074) (id1 _ _)
  have e : (rndM (B * H) * 2 ^ 1074).natAbs = (rndM (B * H)).natAbs * 2 ^ 1074 := natAbs_scale _ _
  rw [e] at ht
  refine Nat.le_of_mul_le_mul_right (?_ : _ ≤ (2 * B.natAbs + 1) * 2 ^ 1074) hU
  rw [Nat.add_mul, Nat.mul_assoc]
  show (rndM (B * H)).natAbs * 2 ^ 1074 ≤ _
  generalize (rndM (B * H)).natAbs * 2 ^ 1074 = x at *
  generalize (rndM (B * H) * 2 ^ 1074 - B * H).natAbs = y at *
  generalize (B * H).natAbs = v at *
  generalize B.natAbs * 2 ^ 1074 = u at *
  generalize 2 ^ 1074 = U at *
  omega

theorem widened {hi lo b : Nat} {H L B : Int} {W : Nat} (hW : ∀ (n : Int) (k : Nat), k ≤ 1000 → n.natAbs ≤ k * W → n.natAbs < 2 ^ 2096) (hW1 : 1 ≤ W)
    (iH : Is hi H) (iL : Is lo L) (iB : Is b B) (bH : H.natAbs ≤ 1 * W) (bH' : H.natAbs ≤ 2 ^ 1074) (bL : L.natAbs ≤ 1 * W) (bB : B.natAbs ≤ 1 * W)
    (hf : (wT H L B).natAbs ≤ (wS H B).natAbs ∨ wS H B = 0) :
    ∃ rh rl, Widened hi lo b rh rl ∧ Is rh (wR H L B) ∧ Is rl (wL H L B) ∧ (wR H L B).natAbs ≤ 68 * W := by
  have bY : (wY H B).natAbs ≤ 3 * W := by have := wY_le (B := B) bH'; omega
  obtain ⟨y, hy, iY⟩ := is_mul iB iH (hW (wY H B) _ (by decide) bY)
  change Is y (wY H B) at iY
  have bS : (wS H B).natAbs ≤ _ := bRnd (bAdd bH bY)
  obtain ⟨s, hs, iS⟩ := is_add iH iY (hW (wS H B) _ (by decide) bS)
  change Is s (wS H B) at iS
  have bZ := bRnd (bSub bS bH)
  obtain ⟨z, hz, iZ⟩ := is_sub iS iH (hW _ _ (by decide) bZ)
  have bP := bRnd (bSub bS bZ)
  obtain ⟨p, hp, iP⟩ := is_sub iS iZ (hW _ _ (by decide) bP)
  have bQ := bRnd (bSub bH bP)
  obtain ⟨q, hq, iQ⟩ := is_sub iH iP (hW _ _ (by decide) bQ)
  have bR := bRnd (bSub bY bZ)
  obtain ⟨r, hr, iR⟩ := is_sub iY iZ (hW _ _ (by decide) bR)
  have he := two_sum iH.rep iY.rep
  change rnd (rnd (H - rnd (wS H B - rnd (wS H B - H))) + rnd (wY H B - rnd (wS H B - H))) = H + wY H B - wS H B at he
  have bE := bRnd (bAdd bQ bR)
  obtain ⟨sl, hsl, iE⟩ := is_add iQ iR (hW _ _ (by decide) bE)
  rw [he] at iE bE
  have bT : (wT H L B).natAbs ≤ _ := bRnd (bAdd bL (bSub (bAdd bH bY) bS))
  obtain ⟨t, ht, iT⟩ := is_add iL iE (hW (wT H L B) _ (by decide) bT)
  change Is t (wT H L B) at iT
  have bRh : (wR H L B).natAbs ≤ _ := bRnd (bAdd bS bT)
  obtain ⟨rh, hrh, iRh⟩ := is_add iS iT (hW (wR H L B) _ (by decide) bRh)
  change Is rh (wR H L B) at iRh
  have hf' := fast_sum iS.rep iT.rep hf
  change rnd (wT H L B - rnd (wR H L B - wS H B)) = wL H L B at hf'
  have bD := bRnd (bSub bRh bS)
  obtain ⟨d, hd, iD⟩ := is_sub iRh iS (hW _ _ (by decide) bD)
  have bRl := bRnd (bSub bT bD)
  obtain ⟨rl, hrl, iRl⟩ := is_sub iT iD (hW _ _ (by decide) bRl)
  rw [hf'] at iRl
  exact ⟨rh, rl, ⟨y, s, z, p, q, r, sl, t, d, hy, hs, hz, hp, hq, hr, hsl, ht, hrh, hd, hrl⟩, iRh, iRl, bRh⟩

/-- The answer is normalised. -/
theorem norm (H L B : Int) : rnd (wR H L B + wL H L B) = wR H L B := by
  unfold wL; rw [show wR H L B + (wS H B + wT H L B - wR H L B) = wS H B + wT H L B from by omega]; rfl

end Go.Proofs.Qxb6618457a.Fp
