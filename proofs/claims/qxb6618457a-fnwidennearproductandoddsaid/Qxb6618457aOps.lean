import Derived.Test.Qxb6618457aWord
namespace Go.Proofs.Qxb6618457a.Fp
open Ieee

/-- A number written, at a place that is not below the least. -/
theorem is_write (t : Int) (neg : Bool) (base : Int) (hn : t ≠ 0 → neg = decide (t < 0)) (hbase : -1074 ≤ base) (hb : (rnd (t * 2 ^ (base + 1074).toNat)).natAbs < 2 ^ 2096) :
    Is (double.nearest neg t.natAbs base) (rnd (t * 2 ^ (base + 1074).toNat)) := by
  have hP : 0 < 2 ^ (base + 1074).toNat := pow_pos' _
  have ha : (t * 2 ^ (base + 1074).toNat).natAbs = t.natAbs * 2 ^ (base + 1074).toNat := by
    rw [Int.natAbs_mul, Int.natAbs_pow]; rfl
  rw [rnd_natAbs, ha] at hb
  have h := is_nearest neg t.natAbs (base + 1074).toNat 0 base (by omega) hb
  have e : rnd (t * 2 ^ (base + 1074).toNat) = (if neg then -(rndN 0 (t.natAbs * 2 ^ (base + 1074).toNat) : Int) else (rndN 0 (t.natAbs * 2 ^ (base + 1074).toNat) : Int)) := by
    unfold rnd
    rw [ha]
    by_cases h0 : t = 0
    · subst h0
      rw [Int.zero_mul, if_neg (by omega), Int.natAbs_zero, Nat.zero_mul]
      have := rd_zero
      unfold rd at *
      rw [this]
      cases neg <;> rfl
    · rw [hn h0]
      have hpos : (0 : Int) < 2 ^ (base + 1074).toNat := by
        have : ((2 ^ (base + 1074).toNat : Nat) : Int) = 2 ^ (base + 1074).toNat := by simp
        omega
      by_cases hlt : t < 0
      · have : t * 2 ^ (base + 1074).toNat < 0 := Int.mul_neg_of_neg_of_pos hlt hpos
        rw [if_pos this, decide_eq_true hlt, if_pos rfl]; rfl
      · have : 0 ≤ t * 2 ^ (base + 1074).toNat := Int.mul_nonneg (by omega) (by omega)
        rw [if_neg (by omega), decide_eq_false hlt, if_neg (by simp)]; rfl
  rw [e]; exact h

theorem scale_signed (s : Bool) (m : Nat) (i base : Int) (hb : -1074 ≤ base) (hi : base ≤ i) :
    signed s m (i - base).toNat * 2 ^ (base + 1074).toNat = signed s m (i + 1074).toNat := by
  rw [← signed_mul]; congr 1; omega

theorem is_sum {x : Nat} {a : Int} {d : Datum} {b : Int} {t : Bool} {n : Nat} {j : Int} (hx : Is x a) (hd : d = .number t n j) (hj : -1074 ≤ j) (hb : b = signed t n (j + 1074).toNat)
    (hbd : (rnd (a + b)).natAbs < 2 ^ 2096) : ∃ r, ((double.read x).sum d).map double.write = some r ∧ Is r (rnd (a + b)) := by
  obtain ⟨s, m, i, hr, -, hi, rfl⟩ := hx
  subst hd hb
  rw [hr]
  simp only [Datum.sum, Option.map, Format.write]
  refine ⟨_, rfl, ?_⟩
  have e : (signed s m (i - min i j).toNat + signed t n (j - min i j).toNat) * 2 ^ (min i j + 1074).toNat = signed s m (i + 1074).toNat + signed t n (j + 1074).toNat := by
    rw [Int.add_mul, scale_signed _ _ _ _ (by omega) (by omega), scale_signed _ _ _ _ (by omega) (by omega)]
  rw [← e] at hbd ⊢
  exact is_write _ _ _ (fun h0 => by rw [if_neg h0]) (by omega) hbd

theorem is_add {x y : Nat} {a b : Int} (hx : Is x a) (hy : Is y b) (h : (rnd (a + b)).natAbs < 2 ^ 2096) : ∃ r, double.add x y = some r ∧ Is r (rnd (a + b)) := by
  obtain ⟨t, n, j, hr, -, hj, hb⟩ := hy
  exact is_sum hx hr hj hb h

theorem signed_not (s : Bool) (m k : Nat) : signed (!s) m k = -signed s m k := by
  rw [signed_eq, signed_eq]; cases s <;> simp

theorem is_sub {x y : Nat} {a b : Int} (hx : Is x a) (hy : Is y b) (h : (rnd (a - b)).natAbs < 2 ^ 2096) : ∃ r, double.sub x y = some r ∧ Is r (rnd (a - b)) := by
  obtain ⟨t, n, j, hr, -, hj, hb⟩ := hy
  rw [Int.sub_eq_add_neg] at h ⊢
  exact is_sum (t := !t) (n := n) (j := j) hx (by rw [hr]; rfl) hj (by rw [signed_not, hb]) h

/-- The product, rounded: 'n' counts units of '2^-2148', the answer units of '2^-1074'. -/
def rndM (n : Int) : Int := if n < 0 then -(rndN 1074 n.natAbs : Int) else (rndN 1074 n.natAbs : Int)

theorem rndN_zero (D : Nat) : rndN D 0 = 0 := by
  have : rn 0 (kOf D 0) = 0 := by
    have := rn_exact 0 (kOf D 0) (by simp)
    rcases Nat.mul_eq_zero.1 this with h | h
    · exact h
    · exact absurd h (Nat.ne_of_gt (pow_pos' _))
  rw [rndN, this, Nat.zero_mul]

theorem rndM_neg (n : Int) : rndM (-n) = -rndM n := by
  unfold rndM
  rw [Int.natAbs_neg]
  by_cases h0 : n = 0
  · subst h0; simp [rndN_zero]
  · by_cases h : n < 0
    · rw [if_neg (by omega), if_pos h]; omega
    · rw [if_pos (by omega), if_neg h]

theorem rndM_natAbs (n : Int) : (rndM n).natAbs = rndN 1074 n.natAbs := by
  unfold rndM; split <;> omega

theorem is_mul {x y : Nat} {a b : Int} (hx : Is x a) (hy : Is y b) (h : (rndM (a * b)).natAbs < 2 ^ 2096) : ∃ r, double.mul x y = some r ∧ Is r (rndM (a * b)) := by
  obtain ⟨s, m, i, hr, -, hi, rfl⟩ := hx
  obtain ⟨t, n, j, hr', -, hj, rfl⟩ := hy
  unfold Format.mul
  rw [hr, hr']
  simp only [Datum.product, Option.map, Format.write]
  refine ⟨_, rfl, ?_⟩
  have ha : (signed s m (i + 1074).toNat * signed t n (j + 1074).toNat).natAbs = m * n * 2 ^ (i + j + 2148).toNat := by
    rw [Int.natAbs_mul, signed_natAbs, signed_natAbs, show (i + j + 2148).toNat = (i + 1074).toNat + (j + 1074).toNat from by omega, Nat.pow_add]
    simp only [Nat.mul_assoc, Nat.mul_left_comm]
  rw [rndM_natAbs, ha] at h
  have hn := is_nearest (s ^^ t) (m * n) (i + j + 2148).toNat 1074 (i + j) (by omega) h
  have e : rndM (signed s m (i + 1074).toNat * signed t n (j + 1074).toNat) = (if (s ^^ t) then -(rndN 1074 (m * n * 2 ^ (i + j + 2148).toNat) : Int) else (rndN 1074 (m * n * 2 ^ (i + j + 2148).toNat) : Int)) := by
    unfold rndM
    rw [ha]
    have hm : ∀ a b : Nat, ((a : Int) * (b : Int)) = ((a * b : Nat) : Int) := fun a b => by simp
    by_cases h0 : signed s m (i + 1074).toNat * signed t n (j + 1074).toNat = 0
    · have : m * n * 2 ^ (i + j + 2148).toNat = 0 := by rw [← ha, h0]; rfl
      rw [h0, this, rndN_zero, if_neg (by omega)]
      cases (s ^^ t) <;> rfl
    · have hne : (m * 2 ^ (i + 1074).toNat) * (n * 2 ^ (j + 1074).toNat) ≠ 0 := by
        intro hz
        apply h0
        apply Int.natAbs_eq_zero.1
        rw [Int.natAbs_mul, signed_natAbs, signed_natAbs]
        exact hz
      rw [signed_eq, signed_eq]
      generalize m * 2 ^ (i + 1074).toNat = A at *
      generalize n * 2 ^ (j + 1074).toNat = B at *
      generalize (rndN 1074 (m * n * 2 ^ (i + j + 2148).toNat) : Int) = R
      cases s <;> cases t
      · simp only [Bool.false_eq_true, if_false, Bool.xor_self, hm]
        rw [if_neg (by omega)]
      · simp only [Bool.false_eq_true, if_false, if_true, Bool.false_xor, Int.mul_neg, hm]
        rw [if_pos (by omega)]
      · simp only [Bool.false_eq_true, if_false, if_true, Bool.xor_false, Int.neg_mul, hm]
        rw [if_pos (by omega)]
      · simp only [Bool.false_eq_true, if_false, if_true, Bool.xor_self, Int.neg_mul, Int.mul_neg, Int.neg_neg, hm]
        rw [if_neg (by omega)]
  rw [e]; exact hn

/-- The sign bit turned. -/
theorem is_neg {x : Nat} {a : Int} (hx : Is x a) (hlt : x < 2 ^ 64) : Is (x ^^^ 2 ^ 63) (-a) ∧ x ^^^ 2 ^ 63 < 2 ^ 64 := by
  have h1 : (x ^^^ 2 ^ 63) % 2 ^ 63 = x % 2 ^ 63 := by
    rw [Nat.xor_mod_two_pow]; simp
  have h2 : (x ^^^ 2 ^ 63) < 2 ^ 64 := Nat.xor_lt_two_pow hlt (by omega)
  have h3 : (x ^^^ 2 ^ 63) / 2 ^ 63 = 1 - x / 2 ^ 63 := by
    rw [← Nat.shiftRight_eq_div_pow, Nat.shiftRight_xor_distrib, Nat.shiftRight_eq_div_pow, Nat.shiftRight_eq_div_pow]
    have : x / 2 ^ 63 = 0 ∨ x / 2 ^ 63 = 1 := by omega
    rcases this with h | h <;> rw [h] <;> rfl
  have h4 : ((x ^^^ 2 ^ 63) / 2 ^ 63 % 2 == 1) = !(x / 2 ^ 63 % 2 == 1) := by
    rw [h3]
    have : x / 2 ^ 63 = 0 ∨ x / 2 ^ 63 = 1 := by omega
    rcases this with h | h <;> rw [h] <;> rfl
  refine ⟨?_, h2⟩
  obtain ⟨s, m, i, hr, hm, hi, rfl⟩ := hx
  refine ⟨!s, m, i, ?_, hm, hi, (signed_not _ _ _).symm⟩
  rw [read_eq] at hr ⊢
  rw [h1, h4]
  split at hr
  · rename_i hc; rw [if_pos hc]; cases hr; rfl
  · rename_i hc
    rw [if_neg hc]
    split at hr
    · rename_i hc; rw [if_pos hc]; cases hr; rfl
    · split at hr <;> cases hr

theorem is_order {x y : Nat} {a b : Int} (hx : Is x a) (hy : Is y b) : double.order x y = some (compare a b) := by
  obtain ⟨s, m, i, hr, -, hi, rfl⟩ := hx
  obtain ⟨t, n, j, hr', -, hj, rfl⟩ := hy
  unfold Format.order
  rw [hr, hr']
  simp only [Datum.order]
  have hpos : (0 : Int) < 2 ^ (min i j + 1074).toNat := by
    have h1 : ((2 ^ (min i j + 1074).toNat : Nat) : Int) = 2 ^ (min i j + 1074).toNat := by simp
    have h2 := pow_pos' (min i j + 1074).toNat
    omega
  rw [← scale_signed s m i (min i j) (by omega) (by omega), ← scale_signed t n j (min i j) (by omega) (by omega)]
  generalize signed s m (i - min i j).toNat = A
  generalize signed t n (j - min i j).toNat = B
  generalize (2 ^ (min i j + 1074).toNat : Int) = p at *
  congr 1
  show compareOfLessAndEq A B = compareOfLessAndEq (A * p) (B * p)
  unfold compareOfLessAndEq
  have e1 : A * p < B * p ↔ A < B := Int.mul_lt_mul_right hpos
  have e2 : A * p = B * p ↔ A = B := Int.mul_eq_mul_right_iff (by omega)
  simp only [e1, e2]

theorem cmp_lt {a b : Int} : compare a b = .lt ↔ a < b := by
  show compareOfLessAndEq a b = .lt ↔ a < b
  unfold compareOfLessAndEq; split
  · simp [*]
  · split <;> simp [*]
theorem cmp_eq {a b : Int} : compare a b = .eq ↔ a = b := by
  show compareOfLessAndEq a b = .eq ↔ a = b
  unfold compareOfLessAndEq; split
  · simp; omega
  · split <;> simp [*]
theorem cmp_gt {a b : Int} : compare a b = .gt ↔ b < a := by
  show compareOfLessAndEq a b = .gt ↔ b < a
  unfold compareOfLessAndEq; split
  · simp; omega
  · split <;> simp <;> omega

theorem Is.unique {x : Nat} {a b : Int} (h1 : Is x a) (h2 : Is x b) : a = b := by
  obtain ⟨s, m, i, hr, -, -, rfl⟩ := h1
  obtain ⟨t, n, j, hr', -, -, rfl⟩ := h2
  rw [hr] at hr'; cases hr'; rfl

end Go.Proofs.Qxb6618457a.Fp
