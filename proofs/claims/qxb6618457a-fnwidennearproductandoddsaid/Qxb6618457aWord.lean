import Derived.Test.Qxb6618457aSum
import Ieee.Arith
namespace Go.Proofs.Qxb6618457a.Fp
open Ieee

theorem sw : double.signWeight = 2 ^ 63 := rfl
theorem bn : double.binade = 2 ^ 52 := rfl
theorem ir : double.infRung = 2047 * 2 ^ 52 := rfl
theorem lp : double.leastPlace = -1074 := rfl
theorem fb : double.fractionBits = 52 := rfl

theorem read_eq (x : Nat) : double.read x =
    (if x % 2 ^ 63 < 2 ^ 52 then .number (x / 2 ^ 63 % 2 == 1) (x % 2 ^ 63) (-1074)
    else if x % 2 ^ 63 < 2047 * 2 ^ 52 then .number (x / 2 ^ 63 % 2 == 1) (2 ^ 52 + x % 2 ^ 63 % 2 ^ 52) (-1074 + ((x % 2 ^ 63 / 2 ^ 52 - 1 : Nat) : Int))
    else if x % 2 ^ 63 = 2047 * 2 ^ 52 then .infinity (x / 2 ^ 63 % 2 == 1)
    else .nan (x / 2 ^ 63 % 2 == 1) (x % 2 ^ 63 - 2047 * 2 ^ 52)) := by
  unfold Format.read
  simp only [sw, bn, ir, lp]
  rfl

/-- The word x reads as the finite number n * 2^-1074. -/
def Is (x : Nat) (n : Int) : Prop := ∃ s m i, double.read x = .number s m i ∧ m < 2 ^ 53 ∧ -1074 ≤ i ∧ n = signed s m (i + 1074).toNat

theorem signed_eq (s : Bool) (m k : Nat) : signed s m k = if s then -((m * 2 ^ k : Nat) : Int) else ((m * 2 ^ k : Nat) : Int) := by
  unfold signed; rw [Nat.shiftLeft_eq]

theorem signed_natAbs (s : Bool) (m k : Nat) : (signed s m k).natAbs = m * 2 ^ k := by
  rw [signed_eq]
  cases s
  · exact Int.natAbs_natCast _
  · rw [if_pos rfl, Int.natAbs_neg]; exact Int.natAbs_natCast _

theorem signed_mul (s : Bool) (m k j : Nat) : signed s m (k + j) = signed s m k * 2 ^ j := by
  rw [signed_eq, signed_eq, Nat.pow_add, ← Nat.mul_assoc]
  cases s <;> simp [Int.neg_mul]

theorem Is.rep {x : Nat} {n : Int} (h : Is x n) : Rep n := by
  obtain ⟨s, m, i, -, hm, -, rfl⟩ := h
  refine rep_of (k := (i + 1074).toNat) ?_ ?_
  · rw [dvd_iff, signed_natAbs]; exact ⟨m, Nat.mul_comm _ _⟩
  · rw [signed_natAbs]; exact Nat.mul_le_mul_right _ (Nat.le_of_lt hm)

theorem cut_even (neg : Bool) (n d : Nat) : Toward.even.cut neg n d = rn n d := by
  have hlog : n < 2 ^ (n.log2 + 1) := Nat.lt_log2_self
  unfold Toward.cut
  simp only [Nat.shiftLeft_eq, Nat.one_mul]
  rcases Nat.le_total d (n.log2 + 2) with h | h
  · rw [Nat.min_eq_left h]
    unfold rn up
    congr 1
    by_cases hc : 2 ^ d < 2 * (n % 2 ^ d) ∨ (2 ^ d = 2 * (n % 2 ^ d) ∧ n / 2 ^ d % 2 = 1)
    · rw [if_pos hc]
      have : (decide (2 ^ d < 2 * (n % 2 ^ d)) || (2 ^ d == 2 * (n % 2 ^ d) && n / 2 ^ d % 2 == 1)) = true := by
        rcases hc with hc | ⟨h1, h2⟩
        · rw [decide_eq_true hc, Bool.true_or]
        · rw [beq_iff_eq.2 h1, beq_iff_eq.2 h2, Bool.and_self, Bool.or_true]
      rw [this]; rfl
    · rw [if_neg hc]
      have : (decide (2 ^ d < 2 * (n % 2 ^ d)) || (2 ^ d == 2 * (n % 2 ^ d) && n / 2 ^ d % 2 == 1)) = false := by
        rw [Bool.eq_false_iff]
        intro ht
        rw [Bool.or_eq_true, Bool.and_eq_true, decide_eq_true_iff, beq_iff_eq, beq_iff_eq] at ht
        exact hc ht
      rw [this]; rfl
  · rw [Nat.min_eq_right h]
    have h2 : 2 ^ (n.log2 + 2) = 2 * 2 ^ (n.log2 + 1) := by rw [Nat.mul_comm, ← Nat.pow_succ]
    have h3 : 2 ^ (n.log2 + 2) ≤ 2 ^ d := Nat.pow_le_pow_right (by omega) h
    unfold rn up
    generalize 2 ^ (n.log2 + 2) = g at *
    generalize 2 ^ d = p at *
    generalize 2 ^ (n.log2 + 1) = q at *
    have a1 : n / g = 0 := Nat.div_eq_of_lt (by omega)
    have a2 : n % g = n := Nat.mod_eq_of_lt (by omega)
    have a3 : n / p = 0 := Nat.div_eq_of_lt (by omega)
    have a4 : n % p = n := Nat.mod_eq_of_lt (by omega)
    rw [a1, a2, a3, a4, if_neg (by omega)]
    have : (decide (g < 2 * n) || (g == 2 * n && 0 % 2 == 1)) = false := by
      rw [Bool.eq_false_iff]
      intro ht
      rw [Bool.or_eq_true, Bool.and_eq_true, decide_eq_true_iff, beq_iff_eq, beq_iff_eq] at ht
      omega
    rw [this]; rfl

theorem rn_shift (m P d : Nat) : rn (m * 2 ^ P) (P + d) = rn m d := by
  unfold rn up
  have h1 : m * 2 ^ P / 2 ^ (P + d) = m / 2 ^ d := by
    rw [Nat.pow_add, Nat.mul_comm m, Nat.mul_div_mul_left _ _ (pow_pos' P)]
  have h2 : m * 2 ^ P % 2 ^ (P + d) = m % 2 ^ d * 2 ^ P := by
    rw [Nat.pow_add, Nat.mul_comm m, Nat.mul_mod_mul_left, Nat.mul_comm]
  rw [h1, h2, Nat.pow_add]
  have hp := pow_pos' P
  have e1 : (2 ^ P * 2 ^ d < 2 * (m % 2 ^ d * 2 ^ P)) ↔ (2 ^ d < 2 * (m % 2 ^ d)) := by
    rw [← Nat.mul_assoc, Nat.mul_comm (2 ^ P)]
    exact Nat.mul_lt_mul_right hp
  have e2 : (2 ^ P * 2 ^ d = 2 * (m % 2 ^ d * 2 ^ P)) ↔ (2 ^ d = 2 * (m % 2 ^ d)) := by
    rw [← Nat.mul_assoc, Nat.mul_comm (2 ^ P)]
    exact ⟨fun h => Nat.eq_of_mul_eq_mul_right hp h, fun h => congrArg (· * 2 ^ P) h⟩
  simp only [e1, e2]

theorem rn_zero (n : Nat) : rn n 0 = n := by
  have := rn_exact n 0 (by simp)
  simpa using this

theorem rn_above (m P k : Nat) (h : k ≤ P) : rn (m * 2 ^ P) k = m * 2 ^ (P - k) := by
  have e : m * 2 ^ P = m * 2 ^ (P - k) * 2 ^ k := by
    rw [Nat.mul_assoc, ← Nat.pow_add, Nat.sub_add_cancel h]
  have := rn_exact (m * 2 ^ P) k ⟨m * 2 ^ (P - k), by rw [e, Nat.mul_comm]⟩
  rw [e] at this ⊢
  exact Nat.eq_of_mul_eq_mul_right (pow_pos' k) this

/-- The word of a rung below infinity's reads as the number that it counts. -/
theorem is_word (neg : Bool) (L q : Nat) (hq : q ≤ 2 ^ 53) (hl : 0 < L → 2 ^ 52 ≤ q) (hL : L * 2 ^ 52 + q < 2047 * 2 ^ 52) :
    Is (double.word neg (min (L * 2 ^ 52 + q) (2047 * 2 ^ 52))) (signed neg q L) := by
  rw [Nat.min_eq_left (by omega)]
  have hr : L * 2 ^ 52 + q < 2 ^ 63 := by omega
  have h1 : double.word neg (L * 2 ^ 52 + q) % 2 ^ 63 = L * 2 ^ 52 + q := by
    unfold Format.word; rw [sw]; split <;> omega
  have h2 : (double.word neg (L * 2 ^ 52 + q) / 2 ^ 63 % 2 == 1) = neg := by
    unfold Format.word; rw [sw]
    cases neg
    · rw [if_neg (by simp), Nat.div_eq_of_lt hr]; rfl
    · rw [if_pos rfl, show (2 ^ 63 + (L * 2 ^ 52 + q)) / 2 ^ 63 = 1 from by omega]; rfl
  unfold Is
  rw [read_eq, h1, h2]
  by_cases ha : L * 2 ^ 52 + q < 2 ^ 52
  · obtain rfl : L = 0 := by omega
    rw [if_pos ha]
    exact ⟨neg, _, _, rfl, by omega, by omega, by rw [Nat.zero_mul, Nat.zero_add]; rfl⟩
  · rw [if_neg ha, if_pos (by omega)]
    by_cases hb : q < 2 ^ 53
    · have hq2 : 2 ^ 52 ≤ q := by
        rcases Nat.eq_zero_or_pos L with h0 | h0
        · subst h0; omega
        · exact hl h0
      have e1 : (L * 2 ^ 52 + q) / 2 ^ 52 - 1 = L := by omega
      have e2 : 2 ^ 52 + (L * 2 ^ 52 + q) % 2 ^ 52 = q := by omega
      rw [e1, e2]
      refine ⟨neg, _, _, rfl, hb, by omega, ?_⟩
      congr 1; omega
    · have e0 : q = 2 ^ 53 := by omega
      subst e0
      have e1 : (L * 2 ^ 52 + 2 ^ 53) / 2 ^ 52 - 1 = L + 1 := by omega
      have e2 : 2 ^ 52 + (L * 2 ^ 52 + 2 ^ 53) % 2 ^ 52 = 2 ^ 52 := by omega
      rw [e1, e2]
      refine ⟨neg, _, _, rfl, by omega, by omega, ?_⟩
      rw [show (-1074 + ((L + 1 : Nat) : Int) + 1074).toNat = L + 1 from by omega, signed_eq, signed_eq, show 2 ^ 53 * 2 ^ L = 2 ^ 52 * 2 ^ (L + 1) from by rw [Nat.pow_succ]; omega]

theorem word_inf (neg : Bool) : double.read (double.word neg (2047 * 2 ^ 52)) = .infinity neg := by
  have h1 : double.word neg (2047 * 2 ^ 52) % 2 ^ 63 = 2047 * 2 ^ 52 := by
    unfold Format.word; rw [sw]; split <;> omega
  have h2 : (double.word neg (2047 * 2 ^ 52) / 2 ^ 63 % 2 == 1) = neg := by
    unfold Format.word; rw [sw]
    cases neg
    · rw [if_neg (by simp), show 2047 * 2 ^ 52 / 2 ^ 63 % 2 = 0 from by omega]; rfl
    · rw [if_pos rfl, show (2 ^ 63 + 2047 * 2 ^ 52) / 2 ^ 63 % 2 = 1 from by omega]; rfl
  rw [read_eq, h1, h2, if_neg (by omega), if_neg (by omega), if_pos rfl]

/-- THE FORM OF WHAT IS WRITTEN: 'mag' counts units of '2^(P - D)' least places. -/
theorem nearest_form (neg : Bool) (mag P D : Nat) (p : Int) (hp : p = (P : Int) - 1074 - D) :
    ∃ L q, double.nearest neg mag p = double.word neg (min (L * 2 ^ 52 + q) (2047 * 2 ^ 52)) ∧ q ≤ 2 ^ 53 ∧ (0 < L → 2 ^ 52 ≤ q) ∧ rndN D (mag * 2 ^ P) = q * 2 ^ L := by
  unfold Format.nearest
  by_cases h0 : mag = 0
  · subst h0
    rw [if_pos rfl]
    have hz : rndN D (0 * 2 ^ P) = 0 := by
      have : rn 0 (kOf D 0) = 0 := by
        have := rn_exact 0 (kOf D 0) (by simp)
        rcases Nat.mul_eq_zero.1 this with h | h
        · exact h
        · exact absurd h (Nat.ne_of_gt (pow_pos' _))
      rw [Nat.zero_mul, rndN, this, Nat.zero_mul]
    rw [hz]
    exact ⟨0, 0, by rw [Nat.min_eq_left (by omega)], by omega, by omega, by rw [Nat.zero_mul]⟩
  rw [if_neg h0]
  dsimp only
  rw [fb, lp, bn, ir, cut_even]
  have hlog : (mag * 2 ^ P).log2 = mag.log2 + P := by
    have hm : mag * 2 ^ P ≠ 0 := Nat.mul_ne_zero h0 (Nat.ne_of_gt (pow_pos' P))
    have h1 := Nat.log2_self_le h0
    have h2 := Nat.lt_log2_self (n := mag)
    have h3 : mag.log2 + P ≤ (mag * 2 ^ P).log2 := (Nat.le_log2 hm).2 (by rw [Nat.pow_add]; exact Nat.mul_le_mul_right _ h1)
    have h4 : (mag * 2 ^ P).log2 < mag.log2 + 1 + P := (Nat.log2_lt hm).2 (by rw [Nat.pow_add]; exact Nat.mul_lt_mul_of_pos_right h2 (pow_pos' P))
    omega
  have hk : kOf D (mag * 2 ^ P) = max (mag.log2 + P - 52) D := by unfold kOf; rw [hlog]
  generalize hlast : max (p + ((mag.log2 : Nat) : Int) - ((52 : Nat) : Int)) (-1074) = last
  have hL : (last - -1074).toNat + D = kOf D (mag * 2 ^ P) := by rw [hk]; omega
  have hkept : rn (mag <<< (p - last).toNat) (last - p).toNat = rn (mag * 2 ^ P) (kOf D (mag * 2 ^ P)) := by
    rw [Nat.shiftLeft_eq]
    rcases Nat.le_total P (kOf D (mag * 2 ^ P)) with h | h
    · rw [show (p - last).toNat = 0 from by omega, Nat.pow_zero, Nat.mul_one]
      obtain ⟨d, hd⟩ := Nat.exists_eq_add_of_le h
      rw [hd, rn_shift, show (last - p).toNat = d from by omega]
    · rw [show (last - p).toNat = 0 from by omega, rn_zero, rn_above _ _ _ h, show (p - last).toNat = P - kOf D (mag * 2 ^ P) from by omega]
  have hv : rndN D (mag * 2 ^ P) = rn (mag * 2 ^ P) (kOf D (mag * 2 ^ P)) * 2 ^ (last - -1074).toNat := by
    unfold rndN; rw [show kOf D (mag * 2 ^ P) - D = (last - -1074).toNat from by omega]
  exact ⟨(last - -1074).toNat, rn (mag * 2 ^ P) (kOf D (mag * 2 ^ P)), by rw [hkept], rn_le D _, fun h => rn_ge D _ (by omega), hv⟩

/-- WHAT IS WRITTEN READS AS THE ROUNDED NUMBER, or as an infinity. -/
theorem nearest_or (neg : Bool) (mag P D : Nat) (p : Int) (hp : p = (P : Int) - 1074 - D) :
    Is (double.nearest neg mag p) (if neg then -(rndN D (mag * 2 ^ P) : Int) else (rndN D (mag * 2 ^ P) : Int)) ∨ ∃ s, double.read (double.nearest neg mag p) = .infinity s := by
  obtain ⟨L, q, e, hq, hl, hv⟩ := nearest_form neg mag P D p hp
  rw [e, hv]
  by_cases h : L * 2 ^ 52 + q < 2047 * 2 ^ 52
  · left
    have := is_word neg L q hq hl h
    rw [signed_eq] at this
    exact this
  · right
    rw [Nat.min_eq_right (by omega)]
    exact ⟨neg, word_inf neg⟩

/-- WHAT IS WRITTEN READS AS THE ROUNDED NUMBER. -/
theorem is_nearest (neg : Bool) (mag P D : Nat) (p : Int) (hp : p = (P : Int) - 1074 - D) (hb : rndN D (mag * 2 ^ P) < 2 ^ 2096) :
    Is (double.nearest neg mag p) (if neg then -(rndN D (mag * 2 ^ P) : Int) else (rndN D (mag * 2 ^ P) : Int)) := by
  obtain ⟨L, q, e, hq, hl, hv⟩ := nearest_form neg mag P D p hp
  rw [e, hv]
  rw [hv] at hb
  have hL' : L < 2045 := by
    rcases Nat.eq_zero_or_pos L with h | h
    · omega
    · have := hl h
      have h5 : 2 ^ (52 + L) < 2 ^ 2096 := by
        rw [Nat.pow_add]; exact Nat.lt_of_le_of_lt (Nat.mul_le_mul_right _ this) hb
      have := (Nat.pow_lt_pow_iff_right (a := 2) (by omega)).1 h5
      omega
  have := is_word neg L q hq hl (by omega)
  rw [signed_eq] at this
  exact this
end Go.Proofs.Qxb6618457a.Fp
