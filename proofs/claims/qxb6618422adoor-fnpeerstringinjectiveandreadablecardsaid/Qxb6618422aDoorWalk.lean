import Derived.Test.Qxb6618422aDoorBack
import Derived.Test.Qxb6618422aDoorText
import Derived.Lib.AppendIntMem
namespace Go.Proofs.Qxb6618422aDoor
open Go.ChangeShapes Go.WideShapes Go.ChangeAt Go.RowKit
set_option linter.unusedVariables false

set_option maxHeartbeats 400000 in
theorem string_small (p : Nat) (hp : p = 1 ∨ p = 2 ∨ p = 3 ∨ p = 4) (w : World) :
    Calls Tryd.prog 4 #[.int .u8 p] w fun e w' => e = .returned (.string (strOf p)) ∧ Below w.heap.size w w' := by
  rcases hp with rfl | rfl | rfl | rfl
  all_goals
    go_enter Tryd.func4, Tryd.ntmps4
    go_wp2
    go_ret
    exact ⟨rfl, Below.refl _ _⟩

theorem below_grow {w w' : World} (h : ∃ k os, w' = Sort.grow (w.drewN k) os) : Below w.heap.size w w' := by
  obtain ⟨k, os, rfl⟩ := h
  exact ⟨rfl, rfl, rfl, by simp, fun i hi => Sort.heap_grow_old (w.drewN k) os hi⟩

theorem str_join (p : Nat) (hp : p = 0 ∨ 4 < p) : strOf p = (⟨#[80, 101, 101, 114, 40]⟩ ++ ⟨(Lib.itoa (p : Int)).toArray⟩ ++ ⟨#[41]⟩ : ByteArray) := by
  unfold strOf
  rw [if_neg (by omega), if_neg (by omega), if_neg (by omega), if_neg (by omega)]
  apply ByteArray.ext
  simp [ByteArray.data_append]

set_option maxHeartbeats 400000 in
theorem string_big (p : Nat) (hp : p = 0 ∨ 4 < p) (hp2 : p ≤ 255) (w : World) (htab : Lib.TabIs Tryd.prog w powName .u64 Lib.pow10Tab) :
    Calls Tryd.prog 4 #[.int .u8 p] w fun e w' => e = .returned (.string (strOf p)) ∧ Below w.heap.size w w' := by
  have h1 : ((p : Int) == 1) = false := beq_eq_false_iff_ne.2 (by omega)
  have h2 : ((p : Int) == 2) = false := beq_eq_false_iff_ne.2 (by omega)
  have h3 : ((p : Int) == 3) = false := beq_eq_false_iff_ne.2 (by omega)
  have h4 : ((p : Int) == 4) = false := beq_eq_false_iff_ne.2 (by omega)
  go_enter Tryd.func4, Tryd.ntmps4
  go_wp2_with fail
  refine (Tryd.strconv_Itoa (p : Int) (by omega) (by omega) _ htab).mono ?_
  rintro e w' ⟨rfl, hw⟩
  have hb := below_grow hw
  clear hw htab
  have hl := itoa_len (p := p) (by omega)
  have hj := str_join p hp
  generalize Lib.itoa (p : Int) = l at *
  have HJ : Hid (strOf p = (⟨#[80, 101, 101, 114, 40]⟩ ++ ⟨l.toArray⟩ ++ ⟨#[41]⟩ : ByteArray)) := hj
  clear hj
  go_wp2
  go_ret
  exact ⟨congrArg (fun s => Ending.returned (Value.string s)) HJ.out.symm, hb⟩

set_option maxHeartbeats 400000 in
theorem fits_word (p : Nat) (hp1 : 1 ≤ p) (hp : p ≤ 4) (s : ByteArray) (h0 : 1 ≤ s.size) (h9 : s.size ≤ 100) (hs : ∀ k (h : k < s.size), 97 ≤ (s[k].toNat : Int) ∧ (s[k].toNat : Int) ≤ 122) (w : World) :
    Calls Tryd.prog 5 #[.int .u8 p, .string s] w fun e w' => e = .returned (.bool true) ∧ ∃ n, w' = w.drewN n := by
  have HS : Hid (∀ k (h : k < s.size), 97 ≤ (s[k].toNat : Int) ∧ (s[k].toNat : Int) ≤ 122) := hs
  clear hs
  have e0 : ((s.size : Int) == 0) = false := beq_eq_false_iff_ne.2 (by omega)
  go_enter Tryd.func5, Tryd.ntmps5
  go_wp2
  go_loop [5] (fun i => ∃ k : Nat, k ≤ s.size ∧ i = .int .i64 k) (fun i => s.size - (intOf i).toNat)
  case atStart => exact ⟨0, by omega, rfl⟩
  case round =>
    obtain ⟨k, hk, rfl⟩ := hrel
    by_cases hlt : k < s.size
    · have hc := HS.out k hlt
      obtain ⟨hc1, hc2⟩ := hc
      go_wp2
      go_round
      case rel => exact ⟨k + 1, by omega, by go_num⟩
      case measure => simp [intOf]; omega
    · go_wp2
      go_ret
      exact ⟨rfl, 0, rfl⟩

theorem fits_num (p : Nat) (hp : p = 0 ∨ 4 < p) (hp2 : p ≤ 255) (w : World) :
    Calls Tryd.prog 5 #[.int .u8 p, .string (strOf p)] w fun e w' => e = .returned (.bool true) ∧ ∃ n, w' = w.drewN n := by
  have hback : ∀ w : World, Calls Tryd.prog 7 #[.string (strOf p)] w fun e w' => e = .returned (.tuple #[.int .i64 p, .bool true]) ∧ ∃ n, w' = w.drewN n := by
    intro w
    by_cases ha : p < 10
    · rw [str_one ha hp]
      have h := back1 (UInt8.ofNat (48 + p)) w (by rw [toNat_digit ha]; omega) (by rw [toNat_digit ha]; omega)
      rw [toNat_digit ha, show ((48 + p : Nat) : Int) - 48 = p from by omega] at h
      exact h
    by_cases hb : p < 100
    · rw [str_two ha hb]
      have e1 := toNat_digit (d := p / 10) (by omega)
      have e2 := toNat_digit (d := p % 10) (by omega)
      have h := back2 (UInt8.ofNat (48 + p / 10)) (UInt8.ofNat (48 + p % 10)) w (by rw [e1]; omega) (by rw [e1]; omega) (by rw [e2]; omega) (by rw [e2]; omega)
      rw [e1, e2, show (((48 + p / 10 : Nat) : Int) - 48) * 10 + (((48 + p % 10 : Nat) : Int) - 48) = p from by omega] at h
      exact h
    · rw [str_three hb (by omega)]
      have e1 := toNat_digit (d := p / 100) (by omega)
      have e2 := toNat_digit (d := p / 10 % 10) (by omega)
      have e3 := toNat_digit (d := p % 10) (by omega)
      have h := back3 (UInt8.ofNat (48 + p / 100)) (UInt8.ofNat (48 + p / 10 % 10)) (UInt8.ofNat (48 + p % 10)) w (by rw [e1]; omega) (by rw [e1]; omega) (by rw [e2]; omega) (by rw [e2]; omega) (by rw [e3]; omega) (by rw [e3]; omega)
      rw [e1, e2, e3, show ((((48 + p / 100 : Nat) : Int) - 48) * 10 + (((48 + p / 10 % 10 : Nat) : Int) - 48)) * 10 + (((48 + p % 10 : Nat) : Int) - 48) = p from by omega] at h
      exact h
  generalize strOf p = s at *
  have H : Hid (∀ w : World, Calls Tryd.prog 7 #[.string s] w fun e w' => e = .returned (.tuple #[.int .i64 p, .bool true]) ∧ ∃ n, w' = w.drewN n) := hback
  clear hback
  rcases hp with rfl | hp
  · go_enter Tryd.func5, Tryd.ntmps5
    go_wp2_with fail
    refine (H.out _).mono ?_
    rintro e w' ⟨rfl, n, rfl⟩
    go_wp2
    go_ret
    exact ⟨rfl, n, rfl⟩
  · have h4 : ¬ (p : Int) ≤ 4 := by omega
    have h1 : 1 ≤ (p : Int) := by omega
    go_enter Tryd.func5, Tryd.ntmps5
    go_wp2_with fail
    refine (H.out _).mono ?_
    rintro e w' ⟨rfl, n, rfl⟩
    go_wp2
    go_ret
    exact ⟨rfl, n, rfl⟩

theorem bytes_low (p : Nat) (hp1 : 1 ≤ p) (hp : p ≤ 4) : 1 ≤ (strOf p).size ∧ (strOf p).size ≤ 100 ∧ ∀ k (h : k < (strOf p).size), 97 ≤ ((strOf p)[k].toNat : Int) ∧ ((strOf p)[k].toNat : Int) ≤ 122 := by
  obtain rfl | rfl | rfl | rfl : p = 1 ∨ p = 2 ∨ p = 3 ∨ p = 4 := by omega
  all_goals exact ⟨by decide, by decide, by decide⟩

theorem fits_any (p : Nat) (hp : p ≤ 255) (w : World) :
    Calls Tryd.prog 5 #[.int .u8 p, .string (strOf p)] w fun e w' => e = .returned (.bool true) ∧ ∃ n, w' = w.drewN n := by
  by_cases h : 1 ≤ p ∧ p ≤ 4
  · obtain ⟨h0, h1, h2⟩ := bytes_low p h.1 h.2
    exact fits_word p h.1 h.2 _ h0 h1 h2 w
  · exact fits_num p (by omega) hp w

theorem string_any (p : Nat) (hp : p ≤ 255) (w : World) (htab : Lib.TabIs Tryd.prog w powName .u64 Lib.pow10Tab) :
    Calls Tryd.prog 4 #[.int .u8 p] w fun e w' => e = .returned (.string (strOf p)) ∧ Below w.heap.size w w' := by
  by_cases h : 1 ≤ p ∧ p ≤ 4
  · exact string_small p (by omega) w
  · exact string_big p (by omega) hp w htab


theorem tab_on {w w' : World} (h : Lib.TabIs Tryd.prog w powName .u64 Lib.pow10Tab) (hb : Below w.heap.size w w') :
    Lib.TabIs Tryd.prog w' powName .u64 Lib.pow10Tab := Lib.tabBelow_of_tabIs h w' hb

theorem below_drewN {B : Nat} {a w : World} (h : Below B a w) (n : Nat) : Below B a (w.drewN n) := ⟨h.os, h.tape, h.output, h.size, h.block⟩

set_option maxHeartbeats 400000 in
/-- THE LAW's WALK. -/
theorem law_any (p q : Nat) (hp : p ≤ 255) (hq : q ≤ 255) (w : World) (htab : Lib.TabIs Tryd.prog w powName .u64 Lib.pow10Tab) :
    Calls Tryd.prog 3 #[.int .u8 p, .int .u8 q] w fun e w' => e = .returned (.bool true) ∧ Below w.heap.size w w' := by
  have heq : ∃ b : Bool, ((strOf p).toList == (strOf q).toList) = b ∧ ((p : Int) == (q : Int)) = b := by
    by_cases h : p = q
    · subst h; exact ⟨true, by simp, by simp⟩
    · refine ⟨false, ?_, beq_eq_false_iff_ne.2 (by omega)⟩
      rw [ByteArray.toList_eq, ByteArray.toList_eq]
      refine beq_eq_false_iff_ne.2 fun e => h ?_
      rw [← code_str (p := p) (by omega), ← code_str (p := q) (by omega), e]
  have HT : Hid (Lib.TabIs Tryd.prog w powName .u64 Lib.pow10Tab) := htab
  clear htab
  have F1 := fits_any p hp
  have F2 := fits_any q hq
  have S1 := string_any p hp
  have S2 := string_any q hq
  generalize strOf p = sp at *
  generalize strOf q = sq at *
  have HF1 : Hid (∀ w : World, Calls Tryd.prog 5 #[.int .u8 p, .string sp] w fun e w' => e = .returned (.bool true) ∧ ∃ n, w' = w.drewN n) := F1
  have HF2 : Hid (∀ w : World, Calls Tryd.prog 5 #[.int .u8 q, .string sq] w fun e w' => e = .returned (.bool true) ∧ ∃ n, w' = w.drewN n) := F2
  have HS1 : Hid (∀ w : World, Lib.TabIs Tryd.prog w powName .u64 Lib.pow10Tab → Calls Tryd.prog 4 #[.int .u8 p] w fun e w' => e = .returned (.string sp) ∧ Below w.heap.size w w') := S1
  have HS2 : Hid (∀ w : World, Lib.TabIs Tryd.prog w powName .u64 Lib.pow10Tab → Calls Tryd.prog 4 #[.int .u8 q] w fun e w' => e = .returned (.string sq) ∧ Below w.heap.size w w') := S2
  clear F1 F2 S1 S2
  obtain ⟨b, heq1, heq2⟩ := heq
  have heq3 : (!(b == b)) = false := by cases b <;> rfl
  go_enter Tryd.func3, Tryd.ntmps3
  go_wp2_with fail
  refine (HS1.out _ HT.out).mono ?_
  rintro e w1 ⟨rfl, hb1⟩
  have HT1 : Hid (Lib.TabIs Tryd.prog w1 powName .u64 Lib.pow10Tab) := tab_on HT.out hb1
  go_wp2_with fail
  refine (HS2.out _ HT1.out).mono ?_
  rintro e w2 ⟨rfl, hb2⟩
  go_wp2_with fail
  refine (HF1.out _).mono ?_
  rintro e w3 ⟨rfl, n1, rfl⟩
  go_wp2_with fail
  refine (HF2.out _).mono ?_
  rintro e w3 ⟨rfl, n2, rfl⟩
  go_wp2
  go_ret
  exact ⟨rfl, below_drewN (hb1.trans (hb2.mono hb1.size)) (n1 + n2)⟩

end Go.Proofs.Qxb6618422aDoor
