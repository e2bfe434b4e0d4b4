import Derived.Test.Qxb6618457aOps
namespace Go.Proofs.Qxb6618457a.Fp

theorem rnd_le2 (n : Int) : (rnd n).natAbs ≤ 2 * n.natAbs := by have := rnd_err n; omega

theorem rndN_err (D N : Nat) : 2 ^ 53 * ((rndN D N : Int) * 2 ^ D - (N : Int)).natAbs ≤ N + 2 ^ 52 * 2 ^ D := by
  have he := rn_err N (kOf D N)
  have hv : rndN D N * 2 ^ D = rn N (kOf D N) * 2 ^ kOf D N := by
    unfold rndN
    rw [Nat.mul_assoc, ← Nat.pow_add]
    congr 2
    unfold kOf; omega
  have hc : ((rndN D N : Int) * 2 ^ D) = ((rndN D N * 2 ^ D : Nat) : Int) := by
    rw [Int.natCast_mul, Int.natCast_pow]; rfl
  rw [hc, hv]
  by_cases hk : D < kOf D N
  · have hl := le_kOf D N hk
    rw [Nat.pow_add] at hl
    generalize rn N (kOf D N) * 2 ^ kOf D N = R at *
    generalize 2 ^ kOf D N = p at *
    generalize 2 ^ D = U at *
    omega
  · have e : kOf D N = D := by unfold kOf at *; omega
    rw [e] at he ⊢
    generalize rn N D * 2 ^ D = R at *
    generalize 2 ^ D = U at *
    omega

/-- The product's error. -/
theorem rndM_err (n : Int) : 2 ^ 53 * (rndM n * 2 ^ 1074 - n).natAbs ≤ n.natAbs + 2 ^ 52 * 2 ^ 1074 := by
  have hN := rndN_err 1074 n.natAbs
  unfold rndM
  generalize rndN 1074 n.natAbs = r at *
  generalize (2 ^ 1074 : Int) = X at *
  split
  · rw [show -(r : Int) * X - n = -((r : Int) * X - (n.natAbs : Int)) from by rw [Int.neg_mul]; generalize (r : Int) * X = y; omega, Int.natAbs_neg]; exact hN
  · rw [show (r : Int) * X - n = (r : Int) * X - (n.natAbs : Int) from by generalize (r : Int) * X = y; omega]; exact hN

/-- A great number with 53 digits is a multiple. -/
theorem rep_big {n : Int} (h : Rep n) {k : Nat} (hb : 2 ^ 52 * 2 ^ k ≤ n.natAbs) : (2 ^ k : Int) ∣ n := by
  rw [dvd_iff]
  have h0 : n.natAbs ≠ 0 := by have := pow_pos' k; omega
  have hk : k ≤ kOf 0 n.natAbs := by
    have := (Nat.le_log2 h0 (k := 52 + k)).2 (by rw [Nat.pow_add]; exact hb)
    unfold kOf; omega
  exact Nat.dvd_trans (Nat.pow_dvd_pow 2 hk) (RepN.canon h)

theorem dvd_small {k : Nat} {n : Int} (h : (2 ^ k : Int) ∣ n) : n = 0 ∨ 2 ^ k ≤ n.natAbs := by
  rw [dvd_iff] at h
  rcases Nat.eq_zero_or_pos n.natAbs with h0 | h0
  · left; omega
  · right; exact Nat.le_of_dvd h0 h

theorem repN_pow (k : Nat) : RepN (2 ^ k) := ⟨k, ⟨1, by rw [Nat.mul_one]⟩, by have := pow_pos' k; omega⟩

/-- The lower half is at most half a unit of the upper one's last place. -/
theorem lo_small {j : Nat} {H L : Int} (h2 : H.natAbs < 2 ^ 54 * 2 ^ j) (hL : rnd (H + L) = H) : L.natAbs ≤ 2 ^ j := by
  have hs := rnd_half (H + L)
  rw [hL] at hs
  have hlt : (H + L).natAbs < 2 ^ (54 + j) := by
    apply Classical.byContradiction
    intro hn
    have hm := rd_mono (2 ^ (54 + j)) (H + L).natAbs (by omega)
    rw [rd_of_repN (repN_pow _), ← rnd_natAbs, hL, Nat.pow_add] at hm
    omega
  have hk : kOf 0 (H + L).natAbs ≤ j + 1 := by
    unfold kOf
    by_cases h0 : (H + L).natAbs = 0
    · rw [h0]; simp
    · have := (Nat.log2_lt h0 (k := 54 + j)).2 hlt
      omega
  have hp : 2 ^ kOf 0 (H + L).natAbs ≤ 2 ^ (j + 1) := Nat.pow_le_pow_right (by omega) hk
  rw [Nat.pow_succ] at hp
  generalize 2 ^ j = u at *
  generalize 2 ^ kOf 0 (H + L).natAbs = p at *
  omega

/-- THE FAST SUM's CONDITION IS MET. -/
theorem fast_ok {j : Nat} {H L Y : Int} (rH : Rep H) (rL : Rep L) (rY : Rep Y) (h1 : 2 ^ 53 * 2 ^ j ≤ H.natAbs) (hl : L.natAbs ≤ 2 ^ j) :
    (rnd (L + (H + Y - rnd (H + Y)))).natAbs ≤ (rnd (H + Y)).natAbs ∨ rnd (H + Y) = 0 := by
  have e1 := rnd_err (H + Y)
  have hm : ∀ n : Int, n.natAbs ≤ (rnd (H + Y)).natAbs → (rnd n).natAbs ≤ (rnd (H + Y)).natAbs := by
    intro n hn
    have := rd_mono _ _ hn
    rw [rd_of_repN (rep_rnd (H + Y))] at this
    rw [rnd_natAbs n]; exact this
  by_cases hS : 4 * 2 ^ j ≤ (rnd (H + Y)).natAbs
  · left
    apply hm
    generalize 2 ^ j = u at *
    generalize rnd (H + Y) = S at *
    omega
  · have hHd : (2 ^ j : Int) ∣ H := rep_big rH (by generalize 2 ^ j = u at *; omega)
    have hYd : (2 ^ j : Int) ∣ Y := rep_big rY (by generalize 2 ^ j = u at *; generalize rnd (H + Y) = S at *; omega)
    have hd := Int.dvd_add hHd hYd
    have hr : Rep (H + Y) := rep_of hd (by generalize 2 ^ j = u at *; generalize rnd (H + Y) = S at *; omega)
    have hsm := dvd_small hd
    rw [rnd_of_rep hr, Int.sub_self, Int.add_zero, rnd_of_rep rL]
    generalize 2 ^ j = u at *
    omega
end Go.Proofs.Qxb6618457a.Fp
