import Derived.Test.Qxb6618457aRound
namespace Go.Proofs.Qxb6618457a.Fp

/-- The nearest with 53 digits, ties to even; 'n' counts units of the least place. -/
def rnd (n : Int) : Int := if n < 0 then -(rd n.natAbs : Int) else (rd n.natAbs : Int)

def Rep (n : Int) : Prop := RepN n.natAbs

theorem rd_zero : rd 0 = 0 := rd_of_repN ⟨0, by simp, by simp⟩

theorem rnd_neg (n : Int) : rnd (-n) = -rnd n := by
  unfold rnd
  rw [Int.natAbs_neg]
  by_cases h0 : n = 0
  · subst h0; simp [rd_zero]
  · by_cases h : n < 0
    · rw [if_neg (by omega), if_pos h]; omega
    · rw [if_pos (by omega), if_neg h]

theorem rnd_natAbs (n : Int) : (rnd n).natAbs = rd n.natAbs := by
  unfold rnd; split <;> omega

theorem rep_rnd (n : Int) : Rep (rnd n) := by
  unfold Rep; rw [rnd_natAbs]; exact repN_rd _

theorem rnd_of_rep {n : Int} (h : Rep n) : rnd n = n := by
  unfold rnd
  rw [rd_of_repN h]
  split <;> omega

theorem Rep.neg {n : Int} (h : Rep n) : Rep (-n) := by unfold Rep; rw [Int.natAbs_neg]; exact h

theorem rep_zero : Rep 0 := ⟨0, by simp, by simp⟩
theorem rnd_zero : rnd 0 = 0 := rnd_of_rep rep_zero

theorem rnd_nonneg {n : Int} (h : 0 ≤ n) : rnd n = (rd n.toNat : Int) := by
  unfold rnd; rw [if_neg (by omega), show n.natAbs = n.toNat from by omega]

theorem rnd_mono {n m : Int} (h : n ≤ m) : rnd n ≤ rnd m := by
  unfold rnd
  by_cases h1 : n < 0 <;> by_cases h2 : m < 0
  · rw [if_pos h1, if_pos h2]; have := rd_mono m.natAbs n.natAbs (by omega); omega
  · rw [if_pos h1, if_neg h2]; omega
  · omega
  · rw [if_neg h1, if_neg h2]; have := rd_mono n.natAbs m.natAbs (by omega); omega

theorem dvd_iff (k : Nat) (n : Int) : (2 ^ k : Int) ∣ n ↔ 2 ^ k ∣ n.natAbs := by
  have h : ((2 ^ k : Int)).natAbs = 2 ^ k := by rw [Int.natAbs_pow]; rfl
  rw [← Int.natAbs_dvd_natAbs, h]

theorem rnd_dvd {k : Nat} {n : Int} (h : (2 ^ k : Int) ∣ n) : (2 ^ k : Int) ∣ rnd n := by
  rw [dvd_iff] at *; rw [rnd_natAbs]; exact rd_dvd h

/-- The relative error: at most 2^-53. -/
theorem rnd_err (n : Int) : 2 ^ 53 * (rnd n - n).natAbs ≤ n.natAbs := by
  have := rd_err n.natAbs
  have e : (rnd n - n).natAbs = ((rd n.natAbs : Int) - (n.natAbs : Int)).natAbs := by unfold rnd; split <;> omega
  rw [e]; omega

theorem rnd_half (n : Int) : 2 * (rnd n - n).natAbs ≤ 2 ^ kOf 0 n.natAbs := by
  have := rd_half n.natAbs
  have e : (rnd n - n).natAbs = ((rd n.natAbs : Int) - (n.natAbs : Int)).natAbs := by unfold rnd; split <;> omega
  rw [e]
  generalize 2 ^ kOf 0 n.natAbs = p at *
  omega

/-- None is nearer. -/
theorem rnd_near {n t : Int} (ht : Rep t) : (n - rnd n).natAbs ≤ (n - t).natAbs := by
  have h0 := rd_near (N := n.natAbs) (t := 0) ⟨0, by simp, by simp⟩
  have h1 := rd_near (N := n.natAbs) (t := t.natAbs) ht
  unfold rnd
  generalize rd n.natAbs = R at *
  split <;> omega

theorem rep_of {k : Nat} {n : Int} (h : (2 ^ k : Int) ∣ n) (hb : n.natAbs ≤ 2 ^ 53 * 2 ^ k) : Rep n :=
  ⟨k, (dvd_iff k n).1 h, hb⟩

/-- The canonical place of a number with 53 digits. -/
theorem Rep.place {n : Int} (h : Rep n) : ∃ k, (2 ^ k : Int) ∣ n ∧ n.natAbs < 2 ^ 53 * 2 ^ k :=
  ⟨kOf 0 n.natAbs, (dvd_iff _ _).2 h.canon, by rw [← Nat.pow_add]; exact lt_kOf 0 _⟩

theorem pow_dvd_int {i j : Nat} (h : i ≤ j) : (2 ^ i : Int) ∣ 2 ^ j := by
  refine ⟨2 ^ (j - i), ?_⟩
  rw [← Int.pow_add]; congr 1; omega

/-- THE ERROR OF A SUM HAS 53 DIGITS. -/
theorem err_rep {a b : Int} (ha : Rep a) (hb : Rep b) : Rep (a + b - rnd (a + b)) := by
  have h1 := rnd_near (n := a + b) hb
  have h2 := rnd_near (n := a + b) ha
  obtain ⟨i, hi, bi⟩ := ha.place
  obtain ⟨j, hj, bj⟩ := hb.place
  rcases Nat.le_total i j with hij | hij
  · have hd : (2 ^ i : Int) ∣ a + b := Int.dvd_add hi (Int.dvd_trans (pow_dvd_int hij) hj)
    refine rep_of (Int.dvd_sub hd (rnd_dvd hd)) ?_
    generalize 2 ^ 53 * 2 ^ i = p at *
    generalize rnd (a + b) = s at *
    omega
  · have hd : (2 ^ j : Int) ∣ a + b := Int.dvd_add (Int.dvd_trans (pow_dvd_int hij) hi) hj
    refine rep_of (Int.dvd_sub hd (rnd_dvd hd)) ?_
    generalize 2 ^ 53 * 2 ^ j = p at *
    generalize rnd (a + b) = s at *
    omega

/-- Two that are near each other: the difference has 53 digits. -/
theorem sub_rep {b z : Int} (hb : Rep b) (hz : Rep z) (h1 : (b - z).natAbs ≤ b.natAbs) (h2 : (b - z).natAbs ≤ z.natAbs) : Rep (b - z) := by
  obtain ⟨i, hi, bi⟩ := hb.place
  obtain ⟨j, hj, bj⟩ := hz.place
  rcases Nat.le_total i j with hij | hij
  · refine rep_of (Int.dvd_sub hi (Int.dvd_trans (pow_dvd_int hij) hj)) ?_
    generalize 2 ^ 53 * 2 ^ i = p at *
    omega
  · refine rep_of (Int.dvd_sub (Int.dvd_trans (pow_dvd_int hij) hi) hj) ?_
    generalize 2 ^ 53 * 2 ^ j = p at *
    omega

/-- THE FAST SUM's FIRST DIFFERENCE HAS 53 DIGITS. -/
theorem fast_rep {a b : Int} (ha : Rep a) (hb : Rep b) (hab : b.natAbs ≤ a.natAbs) : Rep (rnd (a + b) - a) := by
  by_cases hr : Rep (a + b)
  · rw [rnd_of_rep hr, show a + b - a = b from by omega]; exact hb
  obtain ⟨i, hi, bi⟩ := ha.place
  obtain ⟨j, hj, bj⟩ := hb.place
  have hs := rnd_half (a + b)
  have hl := lt_kOf 0 (a + b).natAbs
  have hd : (2 ^ kOf 0 (a + b).natAbs : Int) ∣ rnd (a + b) := by
    rw [dvd_iff, rnd_natAbs, rd_eq]; exact ⟨_, Nat.mul_comm _ _⟩
  have hk0 : 0 < kOf 0 (a + b).natAbs := by
    apply Nat.pos_of_ne_zero
    intro h0
    rw [h0] at hl
    exact hr (rep_of (k := 0) (by simp) (by omega))
  have hg := le_kOf 0 (a + b).natAbs hk0
  generalize hkk : kOf 0 (a + b).natAbs = k at *
  rw [Nat.pow_add] at hl hg
  rcases Nat.le_total i k with hik | hik
  · -- the sum's place is not below a's: it is at most one above
    have hki : k ≤ i + 1 := by
      have h1 : 2 ^ (52 + k) < 2 ^ (54 + i) := by
        have : (a + b).natAbs < 2 ^ (54 + i) := by
          rw [show 54 + i = 53 + i + 1 from by omega, Nat.pow_succ, Nat.pow_add]; omega
        rw [Nat.pow_add]; omega
      have := (Nat.pow_lt_pow_iff_right (a := 2) (by omega)).1 h1
      omega
    have hp : 2 ^ k ≤ 2 * 2 ^ i := by
      rw [Nat.mul_comm, ← Nat.pow_succ]; exact Nat.pow_le_pow_right (by omega) hki
    have hdi : (2 ^ i : Int) ∣ rnd (a + b) - a := Int.dvd_sub (Int.dvd_trans (pow_dvd_int hik) hd) hi
    refine rep_of hdi ?_
    -- a is a multiple of 2^i below 2^53 * 2^i
    have ha' : a.natAbs + 2 ^ i ≤ 2 ^ 53 * 2 ^ i := by
      obtain ⟨c, hc⟩ := (dvd_iff i a).1 hi
      rw [hc, Nat.mul_comm (2 ^ i) c] at bi ⊢
      have : c < 2 ^ 53 := Nat.lt_of_mul_lt_mul_right bi
      have h2 := Nat.mul_le_mul_right (2 ^ i) (Nat.succ_le_of_lt this)
      rw [Nat.succ_mul] at h2
      exact h2
    generalize 2 ^ i = p at *
    generalize 2 ^ k = q at *
    generalize rnd (a + b) = s at *
    omega
  · -- the sum's place lies below a's
    have hjk : j < k := by
      rcases Nat.lt_or_ge j k with h | h
      · exact h
      · exact absurd (rep_of (k := k) (Int.dvd_add (Int.dvd_trans (pow_dvd_int hik) hi) (Int.dvd_trans (pow_dvd_int h) hj)) (by omega)) hr
    have hp : 2 * 2 ^ j ≤ 2 ^ k := by
      rw [Nat.mul_comm, ← Nat.pow_succ]; exact Nat.pow_le_pow_right (by omega) hjk
    refine rep_of (Int.dvd_sub hd (Int.dvd_trans (pow_dvd_int hik) hi)) ?_
    generalize 2 ^ j = p at *
    generalize 2 ^ k = q at *
    generalize rnd (a + b) = s at *
    omega

/-- THE FAST SUM IS EXACT. -/
theorem fast_sum {a b : Int} (ha : Rep a) (hb : Rep b) (hab : b.natAbs ≤ a.natAbs ∨ a = 0) :
    rnd (b - rnd (rnd (a + b) - a)) = a + b - rnd (a + b) := by
  rcases hab with hab | rfl
  · rw [rnd_of_rep (fast_rep ha hb hab), show b - (rnd (a + b) - a) = a + b - rnd (a + b) from by omega]
    exact rnd_of_rep (err_rep ha hb)
  · rw [Int.zero_add, rnd_of_rep hb, Int.sub_zero, rnd_of_rep hb, Int.sub_self, rnd_zero]

/-- THE SUM OF SIX STEPS IS EXACT. -/
theorem two_sum {a b : Int} (ha : Rep a) (hb : Rep b) :
    rnd (rnd (a - rnd (rnd (a + b) - rnd (rnd (a + b) - a))) + rnd (b - rnd (rnd (a + b) - a))) = a + b - rnd (a + b) := by
  have he := err_rep ha hb
  by_cases hab : b.natAbs ≤ a.natAbs
  · have h1 := rnd_of_rep (fast_rep ha hb hab)
    rw [h1, show rnd (a + b) - (rnd (a + b) - a) = a from by omega, rnd_of_rep ha, Int.sub_self, rnd_zero,
      show b - (rnd (a + b) - a) = a + b - rnd (a + b) from by omega, rnd_of_rep he, Int.zero_add, rnd_of_rep he]
  by_cases hs : Rep (a + b)
  · rw [rnd_of_rep hs, show a + b - a = b from by omega, rnd_of_rep hb, show a + b - b = a from by omega, rnd_of_rep ha, Int.sub_self, Int.sub_self, Int.sub_self, rnd_zero]
    rfl
  -- |a| < |b|, and the sum is not exact: then |s| is at least |a|
  have hbig : 2 * a.natAbs ≤ b.natAbs ∨ (a + b).natAbs = a.natAbs + b.natAbs := by
    by_cases h : (a + b).natAbs = a.natAbs + b.natAbs
    · exact Or.inr h
    · left
      apply Classical.byContradiction
      intro hn
      apply hs
      have := sub_rep hb ha.neg (by omega) (by omega)
      rw [show b - -a = a + b from by omega] at this
      exact this
  have hsa : a.natAbs ≤ (rnd (a + b)).natAbs := by
    rw [rnd_natAbs]
    have := rd_mono a.natAbs (a + b).natAbs (by omega)
    rwa [rd_of_repN ha] at this
  have hS := rep_rnd (a + b)
  -- z := s - a, rounded
  have hf := fast_rep hS ha.neg (by rw [Int.natAbs_neg]; exact hsa)
  have hz := err_rep hS ha.neg
  rw [show rnd (a + b) + -a = rnd (a + b) - a from by omega] at hf hz
  have e1 := rnd_err (a + b)
  have e2 := rnd_err (rnd (a + b) - a)
  have hZ := rep_rnd (rnd (a + b) - a)
  generalize hs' : rnd (a + b) = s at *
  generalize hz' : rnd (s - a) = z at *
  have hf' : Rep (s - z) := by have := hf.neg; rwa [show -(z - s) = s - z from by omega] at this
  have hz2 : Rep (a - (s - z)) := by have := hz.neg; rwa [show -(s - a - z) = a - (s - z) from by omega] at this
  have hbz : Rep (b - z) := sub_rep hb hZ (by omega) (by omega)
  rw [rnd_of_rep hf', rnd_of_rep hz2, rnd_of_rep hbz, show a - (s - z) + (b - z) = a + b - s from by omega]
  exact rnd_of_rep he

end Go.Proofs.Qxb6618457a.Fp
