import Derived.Test.Qxb6618457aMain
import Derived.Laws.FloatBits
namespace Go.Proofs.Qxb6618457a.Fp
open Ieee

/-- The sign bit turned. -/
def negN (x : Nat) : Nat := x ^^^ 2 ^ 63
/-- What 'zzAbs' answers. -/
def absN (x : Nat) : Nat := if double.order x 0 = some .lt then negN x else x

theorem is_pow (e : Nat) (h1 : 1 ≤ e) (h2 : e < 2047) : Is (e * 2 ^ 52) (2 ^ (51 + e)) := by
  refine ⟨false, 2 ^ 52, -1074 + ((e - 1 : Nat) : Int), ?_, by omega, by omega, ?_⟩
  · rw [read_eq, show e * 2 ^ 52 % 2 ^ 63 = e * 2 ^ 52 from by omega, if_neg (by omega), if_pos (by omega), show e * 2 ^ 52 / 2 ^ 63 % 2 = 0 from by omega,
      show e * 2 ^ 52 % 2 ^ 52 = 0 from by omega, show e * 2 ^ 52 / 2 ^ 52 = e from by omega]
    rfl
  · rw [signed_eq, if_neg (by simp), ← Nat.pow_add, show 52 + (-1074 + ((e - 1 : Nat) : Int) + 1074).toNat = 51 + e from by omega, Int.natCast_pow]; rfl

theorem is_zero : Is 0 0 := ⟨false, 0, -1074, rfl, by omega, by omega, rfl⟩
theorem is_one : Is 4607182418800017408 (2 ^ 1074) := is_pow 1023 (by omega) (by omega)
theorem is_half : Is 4602678819172646912 (2 ^ 1073) := is_pow 1022 (by omega) (by omega)
theorem is_big : Is 9110782046170513408 (2 ^ 2074) := is_pow 2023 (by omega) (by omega)
theorem is_c49 : Is 4386506037058863104 (2 ^ 1025) := is_pow 974 (by omega) (by omega)
theorem is_nbig : Is 18334154083025289216 (-(2 ^ 2074)) := (is_neg is_big (by omega)).1

theorem of_number {x : Nat} {s : Bool} {m : Nat} {i : Int} (h : double.read x = .number s m i) : ∃ n, Is x n := by
  refine ⟨_, s, m, i, h, ?_, ?_, rfl⟩
  · rw [read_eq] at h
    split at h
    · cases h; omega
    · split at h
      · cases h; omega
      · split at h <;> cases h
  · rw [read_eq] at h
    split at h
    · cases h; omega
    · split at h
      · cases h; omega
      · split at h <;> cases h

theorem order_inf {x y : Nat} {s : Bool} {n : Int} (h : double.read x = .infinity s) (hy : Is y n) : double.order x y = some (if s then .lt else .gt) := by
  obtain ⟨t, m, j, hr, -, -, -⟩ := hy
  unfold Format.order; rw [h, hr]; rfl
theorem order_nan {x y : Nat} {s : Bool} {f : Nat} (h : double.read x = .nan s f) : double.order x y = none := by
  unfold Format.order; rw [h]; rfl

theorem read_neg {x : Nat} (hlt : x < 2 ^ 64) : double.read (negN x) = (double.read x).opposite := by
  unfold negN
  have h1 : (x ^^^ 2 ^ 63) % 2 ^ 63 = x % 2 ^ 63 := by
    rw [Nat.xor_mod_two_pow]; simp
  have h3 : (x ^^^ 2 ^ 63) / 2 ^ 63 = 1 - x / 2 ^ 63 := by
    rw [← Nat.shiftRight_eq_div_pow, Nat.shiftRight_xor_distrib, Nat.shiftRight_eq_div_pow, Nat.shiftRight_eq_div_pow]
    have : x / 2 ^ 63 = 0 ∨ x / 2 ^ 63 = 1 := by omega
    rcases this with h | h <;> rw [h] <;> rfl
  have h4 : ((x ^^^ 2 ^ 63) / 2 ^ 63 % 2 == 1) = !(x / 2 ^ 63 % 2 == 1) := by
    rw [h3]
    have : x / 2 ^ 63 = 0 ∨ x / 2 ^ 63 = 1 := by omega
    rcases this with h | h <;> rw [h] <;> rfl
  rw [read_eq, read_eq, h1, h4]
  split
  · rfl
  · split
    · rfl
    · split <;> rfl

theorem abs_is {x : Nat} {n : Int} (h : Is x n) (hlt : x < 2 ^ 64) : Is (absN x) n.natAbs ∧ absN x < 2 ^ 64 := by
  unfold absN
  rw [is_order h is_zero]
  by_cases hn : n < 0
  · rw [if_pos (congrArg some (cmp_lt.2 hn)), show (n.natAbs : Int) = -n from by omega]
    exact is_neg h hlt
  · rw [if_neg (fun e => hn (cmp_lt.1 (Option.some.inj e))), show (n.natAbs : Int) = n from by omega]
    exact ⟨h, hlt⟩

/-- The first test. -/
theorem dom_is {x : Nat} (hlt : x < 2 ^ 64)
    (hc : double.order (absN x) 0 = some .eq ∨ ((double.order (absN x) 4602678819172646912 = some .gt ∨ double.order (absN x) 4602678819172646912 = some .eq) ∧ double.order (absN x) 4607182418800017408 = some .lt)) :
    ∃ n, Is x n ∧ (n = 0 ∨ (2 ^ 1073 ≤ (n.natAbs : Int) ∧ (n.natAbs : Int) < 2 ^ 1074)) := by
  cases hr : double.read x with
  | number s m i =>
    obtain ⟨n, hn⟩ := of_number hr
    refine ⟨n, hn, ?_⟩
    have ha := (abs_is hn hlt).1
    rw [is_order ha is_zero, is_order ha is_half, is_order ha is_one] at hc
    rcases hc with hc | ⟨hc, hc2⟩
    · left; have := cmp_eq.1 (Option.some.inj hc); omega
    · right
      refine ⟨?_, cmp_lt.1 (Option.some.inj hc2)⟩
      rcases hc with hc | hc
      · exact Int.le_of_lt (cmp_gt.1 (Option.some.inj hc))
      · exact Int.le_of_eq (cmp_eq.1 (Option.some.inj hc)).symm
  | infinity s =>
    exfalso
    have hra : double.read (absN x) = .infinity false := by
      unfold absN
      rw [order_inf hr is_zero]
      cases s
      · rw [if_neg (by decide)]; exact hr
      · rw [if_pos (by decide), read_neg hlt, hr]; rfl
    rw [order_inf hra is_zero, order_inf hra is_one] at hc
    rcases hc with hc | ⟨-, hc⟩ <;> exact absurd hc (by decide)
  | nan s f =>
    exfalso
    have hra : absN x = x := by unfold absN; rw [order_nan hr, if_neg (by decide)]
    rw [hra] at hc
    simp only [order_nan hr] at hc
    rcases hc with hc | ⟨-, hc⟩ <;> exact absurd hc (by decide)

/-- The third test. -/
theorem b_is {x : Nat} (h1 : double.order x 18334154083025289216 = some .gt ∨ double.order x 18334154083025289216 = some .eq)
    (h2 : double.order x 9110782046170513408 = some .lt ∨ double.order x 9110782046170513408 = some .eq) : ∃ n, Is x n ∧ -(2 ^ 2074) ≤ n ∧ n ≤ 2 ^ 2074 := by
  cases hr : double.read x with
  | number s m i =>
    obtain ⟨n, hn⟩ := of_number hr
    refine ⟨n, hn, ?_, ?_⟩
    · rw [is_order hn is_nbig] at h1
      rcases h1 with h | h
      · exact Int.le_of_lt (cmp_gt.1 (Option.some.inj h))
      · exact Int.le_of_eq (cmp_eq.1 (Option.some.inj h)).symm
    · rw [is_order hn is_big] at h2
      rcases h2 with h | h
      · exact Int.le_of_lt (cmp_lt.1 (Option.some.inj h))
      · exact Int.le_of_eq (cmp_eq.1 (Option.some.inj h))
  | infinity s =>
    exfalso
    rw [order_inf hr is_nbig] at h1
    rw [order_inf hr is_big] at h2
    cases s
    · rcases h2 with h | h <;> exact absurd h (by decide)
    · rcases h1 with h | h <;> exact absurd h (by decide)
  | nan s f =>
    exfalso
    rw [order_nan hr] at h1
    rcases h1 with h | h <;> exact absurd h (by decide)

end Go.Proofs.Qxb6618457a.Fp
