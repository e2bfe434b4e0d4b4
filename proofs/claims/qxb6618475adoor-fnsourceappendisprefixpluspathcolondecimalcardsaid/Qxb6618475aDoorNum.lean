import Derived.Lib.ItoaLen
namespace Go.Proofs.Qxb6618475aDoor

/-- The number that a list of digits spells. -/
def num (ds : List UInt8) : Nat := ds.foldl (fun v c => v * 10 + (c.toNat - 48)) 0

theorem num_snoc (l : List UInt8) (c : UInt8) : num (l ++ [c]) = num l * 10 + (c.toNat - 48) := by
  unfold num; rw [List.foldl_append]; rfl

theorem num_take (ds : List UInt8) (k : Nat) (h : k < ds.length) : num (ds.take (k + 1)) = num (ds.take k) * 10 + (ds[k].toNat - 48) := by
  rw [List.take_succ_eq_append_getElem h, num_snoc]

theorem num_take_le (ds : List UInt8) : ∀ (j k : Nat), k + j = ds.length → num (ds.take k) ≤ num ds
  | 0, k, h => by rw [List.take_of_length_le (by omega)]; exact Nat.le_refl _
  | j + 1, k, h => by
    have := num_take_le ds j (k + 1) (by omega)
    rw [num_take ds k (by omega)] at this
    omega

theorem num_le (ds : List UInt8) (k : Nat) (h : k ≤ ds.length) : num (ds.take k) ≤ num ds := num_take_le ds (ds.length - k) k (by omega)

theorem num_le10 (ds : List UInt8) (k : Nat) (h : k < ds.length) : num (ds.take k) * 10 + (ds[k].toNat - 48) ≤ num ds := by
  rw [← num_take ds k h]; exact num_le ds (k + 1) (by omega)

theorem toNat_digit {d : Nat} (h : d < 10) : (UInt8.ofNat (48 + d)).toNat = 48 + d := by
  rw [UInt8.toNat_ofNat']; omega

theorem num_dec (u : Nat) : num (Lib.decDigits u) = u := by
  induction u using Nat.strongRecOn with
  | _ u ih =>
    by_cases h : u < 10
    · rw [Lib.decDigits_one h]
      show 0 * 10 + ((UInt8.ofNat (48 + u)).toNat - 48) = u
      rw [toNat_digit h]; omega
    · rw [Lib.decDigits, dif_neg h, num_snoc, ih (u / 10) (by omega), toNat_digit (by omega)]; omega

theorem digit_dec (u : Nat) : ∀ c ∈ Lib.decDigits u, 48 ≤ c.toNat ∧ c.toNat ≤ 57 := by
  induction u using Nat.strongRecOn with
  | _ u ih =>
    by_cases h : u < 10
    · rw [Lib.decDigits_one h]
      intro c hc
      rw [List.mem_singleton] at hc
      subst hc
      rw [toNat_digit h]; omega
    · rw [Lib.decDigits, dif_neg h]
      intro c hc
      rcases List.mem_append.1 hc with hc | hc
      · exact ih (u / 10) (by omega) c hc
      · rw [List.mem_singleton] at hc
        subst hc
        rw [toNat_digit (by omega)]; omega

/-- A positive number's numeral opens with no nought. -/
theorem head_dec (u : Nat) (h1 : 1 ≤ u) : ∃ c l, Lib.decDigits u = c :: l ∧ 49 ≤ c.toNat := by
  induction u using Nat.strongRecOn with
  | _ u ih =>
    by_cases h : u < 10
    · exact ⟨_, _, Lib.decDigits_one h, by rw [toNat_digit h]; omega⟩
    · obtain ⟨c, l, e, hc⟩ := ih (u / 10) (by omega) (by omega)
      rw [Lib.decDigits, dif_neg h, e]
      exact ⟨c, l ++ _, rfl, hc⟩

theorem itoa_pos (u : Nat) : Lib.itoa (u : Int) = Lib.decDigits u := Lib.itoa_nonneg u
theorem itoa_minus (u : Nat) (h : 1 ≤ u) : Lib.itoa (-(u : Int)) = 45 :: Lib.decDigits u := Lib.itoa_neg u h
end Go.Proofs.Qxb6618475aDoor
