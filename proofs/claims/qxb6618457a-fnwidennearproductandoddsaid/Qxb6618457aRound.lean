namespace Go.Proofs.Qxb6618457a.Fp

/-- 1 where 'N / 2^k' is rounded up (to nearest, ties to even). -/
def up (N k : Nat) : Nat := if 2 ^ k < 2 * (N % 2 ^ k) ∨ (2 ^ k = 2 * (N % 2 ^ k) ∧ N / 2 ^ k % 2 = 1) then 1 else 0
/-- 'N / 2^k' to nearest, ties to even. -/
def rn (N k : Nat) : Nat := N / 2 ^ k + up N k
/-- The place of the last digit kept. -/
def kOf (D N : Nat) : Nat := max (N.log2 - 52) D
/-- 'N' counts units of '2^-D': the nearest with 53 digits, in whole units. -/
def rndN (D N : Nat) : Nat := rn N (kOf D N) * 2 ^ (kOf D N - D)

theorem up_le (N k : Nat) : up N k ≤ 1 := by unfold up; split <;> omega

theorem pow_pos' (k : Nat) : 0 < 2 ^ k := Nat.two_pow_pos k

/-- Twice the error is at most a unit. -/
theorem rn_err (N k : Nat) : 2 * (rn N k * 2 ^ k) ≤ 2 * N + 2 ^ k ∧ 2 * N ≤ 2 * (rn N k * 2 ^ k) + 2 ^ k := by
  have h := Nat.div_add_mod N (2 ^ k)
  have hl := Nat.mod_lt N (pow_pos' k)
  have e : rn N k * 2 ^ k = 2 ^ k * (N / 2 ^ k) + up N k * 2 ^ k := by
    unfold rn; rw [Nat.add_mul, Nat.mul_comm]
  rw [e]
  unfold up
  generalize 2 ^ k = p at *
  generalize p * (N / p) = q at *
  generalize N % p = r at *
  split <;> rename_i hc <;> omega

theorem rn_exact (N k : Nat) (h : 2 ^ k ∣ N) : rn N k * 2 ^ k = N := by
  obtain ⟨c, rfl⟩ := h
  have : (2 ^ k * c) % 2 ^ k = 0 := Nat.mul_mod_right _ _
  have hp := pow_pos' k
  unfold rn up
  rw [this, if_neg (by omega), Nat.mul_div_cancel_left _ hp]
  rw [Nat.add_zero, Nat.mul_comm]

theorem rn_mono (N M k : Nat) (h : N ≤ M) : rn N k ≤ rn M k := by
  have hd := Nat.div_le_div_right (c := 2 ^ k) h
  rcases Nat.lt_or_eq_of_le hd with hlt | heq
  · have := up_le N k
    unfold rn; omega
  · have h1 := Nat.div_add_mod N (2 ^ k)
    have h2 := Nat.div_add_mod M (2 ^ k)
    rw [← heq] at h2
    have hr : N % 2 ^ k ≤ M % 2 ^ k := by omega
    unfold rn up
    rw [← heq]
    split <;> split <;> omega

theorem lt_kOf (D N : Nat) : N < 2 ^ (53 + kOf D N) := by
  by_cases h0 : N = 0
  · subst h0; exact pow_pos' _
  have h1 := Nat.lt_log2_self (n := N)
  refine Nat.lt_of_lt_of_le h1 (Nat.pow_le_pow_right (by omega) ?_)
  unfold kOf
  omega

theorem le_kOf (D N : Nat) (h : D < kOf D N) : 2 ^ (52 + kOf D N) ≤ N := by
  have e : kOf D N = N.log2 - 52 := by unfold kOf at *; omega
  have h0 : N ≠ 0 := by
    intro h0; subst h0; simp [kOf] at h
  have h1 := Nat.log2_self_le h0
  have e2 : 52 + kOf D N = N.log2 := by omega
  rw [e2]; exact h1

theorem rn_le (D N : Nat) : rn N (kOf D N) ≤ 2 ^ 53 := by
  have h := lt_kOf D N
  have hm := rn_mono N (2 ^ 53 * 2 ^ kOf D N) (kOf D N) (by rw [← Nat.pow_add]; omega)
  have he := rn_exact (2 ^ 53 * 2 ^ kOf D N) (kOf D N) ⟨2 ^ 53, Nat.mul_comm _ _⟩
  have := Nat.eq_of_mul_eq_mul_right (pow_pos' _) he
  omega

theorem rn_ge (D N : Nat) (h : D < kOf D N) : 2 ^ 52 ≤ rn N (kOf D N) := by
  have h := le_kOf D N h
  have hm := rn_mono (2 ^ 52 * 2 ^ kOf D N) N (kOf D N) (by rw [← Nat.pow_add]; exact h)
  have he := rn_exact (2 ^ 52 * 2 ^ kOf D N) (kOf D N) ⟨2 ^ 52, Nat.mul_comm _ _⟩
  have := Nat.eq_of_mul_eq_mul_right (pow_pos' _) he
  omega

/-! The case of whole units. -/
def rd (N : Nat) : Nat := rndN 0 N

theorem rd_eq (N : Nat) : rd N = rn N (kOf 0 N) * 2 ^ kOf 0 N := by rw [rd, rndN, Nat.sub_zero]

def RepN (N : Nat) : Prop := ∃ k, 2 ^ k ∣ N ∧ N ≤ 2 ^ 53 * 2 ^ k

theorem repN_rd (N : Nat) : RepN (rd N) :=
  ⟨kOf 0 N, ⟨_, by rw [rd_eq, Nat.mul_comm]⟩, by rw [rd_eq]; exact Nat.mul_le_mul_right _ (rn_le 0 N)⟩

/-- The canonical place divides. -/
theorem RepN.canon {N : Nat} (h : RepN N) : 2 ^ kOf 0 N ∣ N := by
  obtain ⟨k, hd, hb⟩ := h
  by_cases hk : 0 < kOf 0 N
  · have hl := le_kOf 0 N hk
    by_cases he : N = 2 ^ 53 * 2 ^ k
    · have hlt := lt_kOf 0 N
      rw [he, ← Nat.pow_add] at hl hlt ⊢
      exact Nat.pow_dvd_pow 2 (by
        have := (Nat.pow_le_pow_iff_right (a := 2) (by omega)).1 hl
        omega)
    · have hb' : N < 2 ^ (53 + k) := by rw [Nat.pow_add]; omega
      have := (Nat.pow_lt_pow_iff_right (a := 2) (by omega)).1 (Nat.lt_of_le_of_lt hl hb')
      exact Nat.dvd_trans (Nat.pow_dvd_pow 2 (by omega)) hd
  · have : kOf 0 N = 0 := by omega
    rw [this]; exact ⟨N, by simp⟩

theorem rd_of_repN {N : Nat} (h : RepN N) : rd N = N := rn_exact _ _ h.canon

theorem rd_mono (N M : Nat) (h : N ≤ M) : rd N ≤ rd M := by
  have hkk : kOf 0 N ≤ kOf 0 M := by
    by_cases h0 : N = 0
    · subst h0; unfold kOf; simp
    have : N.log2 ≤ M.log2 := (Nat.le_log2 (by omega)).2 (Nat.le_trans (Nat.log2_self_le h0) h)
    unfold kOf; omega
  rcases Nat.lt_or_eq_of_le hkk with hlt | heq
  · have h1 := rn_le 0 N
    have h2 := rn_ge 0 M (by omega)
    have h3 : rd N ≤ 2 ^ 53 * 2 ^ kOf 0 N := by rw [rd_eq]; exact Nat.mul_le_mul_right _ h1
    have h4 : 2 ^ 52 * 2 ^ kOf 0 M ≤ rd M := by rw [rd_eq]; exact Nat.mul_le_mul_right _ h2
    have h5 : 2 ^ 53 * 2 ^ kOf 0 N ≤ 2 ^ 52 * 2 ^ kOf 0 M := by
      rw [← Nat.pow_add, ← Nat.pow_add]; exact Nat.pow_le_pow_right (by omega) (by omega)
    omega
  · rw [rd_eq, rd_eq, ← heq]
    exact Nat.mul_le_mul_right _ (rn_mono N M _ h)

theorem rd_dvd {j N : Nat} (h : 2 ^ j ∣ N) : 2 ^ j ∣ rd N := by
  rcases Nat.le_total (kOf 0 N) j with hk | hk
  · have : rd N = N := rn_exact _ _ (Nat.dvd_trans (Nat.pow_dvd_pow 2 hk) h)
    rw [this]; exact h
  · exact Nat.dvd_trans (Nat.pow_dvd_pow 2 hk) ⟨_, by rw [rd_eq, Nat.mul_comm]⟩

/-- The relative error. -/
theorem rd_err (N : Nat) : 2 ^ 53 * rd N ≤ 2 ^ 53 * N + N ∧ 2 ^ 53 * N ≤ 2 ^ 53 * rd N + N := by
  by_cases hk : 0 < kOf 0 N
  · have hl := le_kOf 0 N hk
    have he := rn_err N (kOf 0 N)
    rw [← rd_eq, Nat.pow_add] at *
    generalize 2 ^ kOf 0 N = p at *
    omega
  · have e : rd N = N := by
      have : kOf 0 N = 0 := by omega
      rw [rd_eq]; exact rn_exact _ _ (by rw [this]; exact ⟨N, by simp⟩)
    rw [e]; omega

/-- The absolute error. -/
theorem rd_half (N : Nat) : 2 * rd N ≤ 2 * N + 2 ^ kOf 0 N ∧ 2 * N ≤ 2 * rd N + 2 ^ kOf 0 N := rn_err N _

/-- Of all that have 53 digits none is nearer. -/
theorem rd_near {N t : Nat} (ht : RepN t) : (N ≤ t → rd N ≤ t ∧ N ≤ rd N + (t - N)) ∧ (t ≤ N → t ≤ rd N ∧ rd N ≤ N + (N - t)) := by
  have hm1 := fun h : N ≤ t => rd_of_repN ht ▸ rd_mono N t h
  have hm2 := fun h : t ≤ N => rd_of_repN ht ▸ rd_mono t N h
  -- the two neighbours
  have h := Nat.div_add_mod N (2 ^ kOf 0 N)
  have hl := Nat.mod_lt N (pow_pos' (kOf 0 N))
  have e : rd N = 2 ^ kOf 0 N * (N / 2 ^ kOf 0 N) + up N (kOf 0 N) * 2 ^ kOf 0 N := by
    rw [rd_eq]; unfold rn; rw [Nat.add_mul, Nat.mul_comm]
  have hside : t ≤ 2 ^ kOf 0 N * (N / 2 ^ kOf 0 N) ∨ 2 ^ kOf 0 N * (N / 2 ^ kOf 0 N) + 2 ^ kOf 0 N ≤ t := by
    by_cases hd : 2 ^ kOf 0 N ∣ t
    · obtain ⟨c, rfl⟩ := hd
      rcases Nat.lt_or_ge (N / 2 ^ kOf 0 N) c with hc | hc
      · right
        rw [show 2 ^ kOf 0 N * (N / 2 ^ kOf 0 N) + 2 ^ kOf 0 N = 2 ^ kOf 0 N * (N / 2 ^ kOf 0 N + 1) from by rw [Nat.mul_add, Nat.mul_one]]
        exact Nat.mul_le_mul_left _ hc
      · left; exact Nat.mul_le_mul_left _ hc
    · left
      obtain ⟨j, hj, hb⟩ := ht
      have hjk : j < kOf 0 N := by
        rcases Nat.lt_or_ge j (kOf 0 N) with h | h
        · exact h
        · exact absurd (Nat.dvd_trans (Nat.pow_dvd_pow 2 h) hj) hd
      have hq : 2 ^ 52 ≤ N / 2 ^ kOf 0 N := by
        rw [Nat.le_div_iff_mul_le (pow_pos' _), ← Nat.pow_add]
        exact le_kOf 0 N (by omega)
      have h5 : 2 ^ 53 * 2 ^ j ≤ 2 ^ kOf 0 N * 2 ^ 52 := by
        rw [← Nat.pow_add, ← Nat.pow_add]; exact Nat.pow_le_pow_right (by omega) (by omega)
      exact Nat.le_trans hb (Nat.le_trans h5 (Nat.mul_le_mul_left _ hq))
  unfold up at e
  generalize 2 ^ kOf 0 N = p at *
  generalize p * (N / p) = q at *
  generalize N % p = r at *
  generalize rd N = R at *
  constructor
  · intro hN
    have := hm1 hN
    refine ⟨this, ?_⟩
    split at e <;> omega
  · intro hN
    have := hm2 hN
    refine ⟨this, ?_⟩
    split at e <;> omega

end Go.Proofs.Qxb6618457a.Fp
