import Derived.Lib.ItoaNum
namespace Go.Proofs.Qxb6618422aDoor

/-- What 'Peer.String' writes. -/
def strOf (p : Nat) : ByteArray :=
  if p = 1 then ⟨#[99, 108, 105, 101, 110, 116]⟩ else if p = 2 then ⟨#[115, 101, 114, 118, 101, 114]⟩ else if p = 3 then ⟨#[114, 111, 117, 116, 101, 114]⟩
  else if p = 4 then ⟨#[111, 98, 115, 101, 114, 118, 101, 114]⟩ else ⟨([80, 101, 101, 114, 40] ++ Lib.itoa (p : Int) ++ [41]).toArray⟩

/-- The number that such a text bears. -/
def code : List UInt8 → Nat
  | [80, _, _, _, _, a, _] => a.toNat - 48
  | [80, _, _, _, _, a, b, _] => (a.toNat - 48) * 10 + (b.toNat - 48)
  | [80, _, _, _, _, a, b, c, _] => ((a.toNat - 48) * 10 + (b.toNat - 48)) * 10 + (c.toNat - 48)
  | 99 :: _ => 1
  | 115 :: _ => 2
  | 114 :: _ => 3
  | _ => 4

theorem toNat_digit {d : Nat} (h : d < 10) : (UInt8.ofNat (48 + d)).toNat = 48 + d := by
  rw [UInt8.toNat_ofNat']; omega

theorem itoa_one {p : Nat} (h : p < 10) : Lib.itoa (p : Int) = [UInt8.ofNat (48 + p)] := by
  unfold Lib.itoa
  rw [if_neg (by omega), show (p : Int).toNat = p from by omega, Lib.decDigits_one h]
theorem itoa_two {p : Nat} (h1 : ¬ p < 10) (h2 : p < 100) : Lib.itoa (p : Int) = [UInt8.ofNat (48 + p / 10), UInt8.ofNat (48 + p % 10)] := by
  unfold Lib.itoa
  rw [if_neg (by omega), show (p : Int).toNat = p from by omega, Lib.decDigits_two h1 h2]
theorem itoa_three {p : Nat} (h1 : ¬ p < 100) (h2 : p < 1000) : Lib.itoa (p : Int) = [UInt8.ofNat (48 + p / 100), UInt8.ofNat (48 + p / 10 % 10), UInt8.ofNat (48 + p % 10)] := by
  unfold Lib.itoa
  rw [if_neg (by omega), show (p : Int).toNat = p from by omega, Lib.decDigits, dif_neg (by omega), Lib.decDigits_two (by omega) (by omega), show p / 10 / 10 = p / 100 from by omega]
  rfl

theorem itoa_len {p : Nat} (h : p < 1000) : (Lib.itoa (p : Int)).length ≤ 3 := by
  by_cases ha : p < 10
  · rw [itoa_one ha]; simp
  by_cases hb : p < 100
  · rw [itoa_two ha hb]; simp
  · rw [itoa_three hb h]; simp

theorem str_one {p : Nat} (h : p < 10) (hn : p = 0 ∨ 4 < p) : strOf p = ⟨#[80, 101, 101, 114, 40, UInt8.ofNat (48 + p), 41]⟩ := by
  unfold strOf
  rw [if_neg (by omega), if_neg (by omega), if_neg (by omega), if_neg (by omega), itoa_one h]; rfl
theorem str_two {p : Nat} (h1 : ¬ p < 10) (h2 : p < 100) : strOf p = ⟨#[80, 101, 101, 114, 40, UInt8.ofNat (48 + p / 10), UInt8.ofNat (48 + p % 10), 41]⟩ := by
  unfold strOf
  rw [if_neg (by omega), if_neg (by omega), if_neg (by omega), if_neg (by omega), itoa_two h1 h2]; rfl
theorem str_three {p : Nat} (h1 : ¬ p < 100) (h2 : p < 1000) : strOf p = ⟨#[80, 101, 101, 114, 40, UInt8.ofNat (48 + p / 100), UInt8.ofNat (48 + p / 10 % 10), UInt8.ofNat (48 + p % 10), 41]⟩ := by
  unfold strOf
  rw [if_neg (by omega), if_neg (by omega), if_neg (by omega), if_neg (by omega), itoa_three h1 h2]; rfl

theorem code_str {p : Nat} (h : p < 1000) : code (strOf p).data.toList = p := by
  by_cases h1 : p = 1
  · subst h1; rfl
  by_cases h2 : p = 2
  · subst h2; rfl
  by_cases h3 : p = 3
  · subst h3; rfl
  by_cases h4 : p = 4
  · subst h4; rfl
  by_cases ha : p < 10
  · rw [str_one ha (by omega)]
    show (UInt8.ofNat (48 + p)).toNat - 48 = p
    rw [toNat_digit ha]; omega
  by_cases hb : p < 100
  · rw [str_two ha hb]
    show ((UInt8.ofNat (48 + p / 10)).toNat - 48) * 10 + ((UInt8.ofNat (48 + p % 10)).toNat - 48) = p
    rw [toNat_digit (by omega), toNat_digit (by omega)]; omega
  · rw [str_three hb h]
    show (((UInt8.ofNat (48 + p / 100)).toNat - 48) * 10 + ((UInt8.ofNat (48 + p / 10 % 10)).toNat - 48)) * 10 + ((UInt8.ofNat (48 + p % 10)).toNat - 48) = p
    rw [toNat_digit (by omega), toNat_digit (by omega), toNat_digit (by omega)]; omega

theorem str_inj {p q : Nat} (hp : p < 1000) (hq : q < 1000) (h : strOf p = strOf q) : p = q := by
  rw [← code_str hp, ← code_str hq, h]

end Go.Proofs.Qxb6618422aDoor
