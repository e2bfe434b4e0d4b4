import Derived.Test.Qxb6618475aDoorAppend
import Derived.Test.Qxb6618475aDoorIsPath
import Derived.Laws.CopyOwn
namespace Go.Proofs.Qxb6618475aDoor
open Go.ChangeShapes Go.WideShapes Go.ChangeAt Go.RowKit
set_option linter.unusedVariables false

/-- What 'Append' writes. -/
def tl (path : ByteArray) (line : Int) : List UInt8 := path.data.toList ++ 58 :: Lib.itoa line

theorem tl_length (path : ByteArray) (line : Int) : (tl path line).length = path.size + 1 + (Lib.itoa line).length := by
  unfold tl; rw [List.length_append, List.length_cons, Array.length_toList]
  show path.data.size + _ = path.data.size + 1 + _
  omega

theorem append_tl (path : ByteArray) (line : Int) (a0 : -9223372036854775808 ≤ line) (a1 : line ≤ 9223372036854775807) (sv : Value) (n : Nat) (xs : List Value) (B : Nat) (w : World)
    (hown : w.ownsRow B 5 1 sv n xs) (hBw : B ≤ w.heap.size) (hn : n + path.size ≤ 100000000) (htab : Lib.TabBelow Tryd.prog B w powName .u64 Lib.pow10Tab) :
    Calls Tryd.prog 5 #[.agg #[.string path, .int .i64 line], sv] w fun e w' => ∃ g cap, e = .returned (.slice (some ⟨g, 0, none⟩) (n + (tl path line).length) cap) ∧
      w'.ownsRow B 5 1 (.slice (some ⟨g, 0, none⟩) (n + (tl path line).length) cap) (n + (tl path line).length) (xs ++ Lib.byteCells (tl path line)) ∧ Below B w w' ∧ Lib.OthersKept 5 none w w' := by
  refine (append_any path line a0 a1 sv n xs B w hown hBw hn htab).mono ?_
  rintro e w' ⟨v', rfl, ho, hb, hq⟩
  have e1 : n + path.size + 1 + (Lib.itoa line).length = n + (tl path line).length := by rw [tl_length]; omega
  have e2 : xs ++ Lib.strCells path ++ [.int .u8 58] ++ Lib.byteCells (Lib.itoa line) = xs ++ Lib.byteCells (tl path line) := by
    simp [tl, Lib.strCells, Lib.byteCells]
  rw [e1, e2] at ho
  rcases ho.2 with ⟨rfl, h0⟩ | ⟨g, cap, cur, rfl, -⟩
  · rw [tl_length] at h0; omega
  · exact ⟨g, cap, rfl, ho, hb, hq⟩

theorem bytes_any (path : ByteArray) (line : Int) (p : Option Addr) (n cap : Nat) (w : World) (hp : path.size ≤ maxLen) (hn : n ≤ maxLen) :
    Calls Tryd.prog 4 #[.string path, .int .i64 line, .slice p n cap] w fun e w' => e = .returned (.bool (decide (path.size + n ≤ 1048576))) ∧ w' = w := by
  unfold maxLen at hp hn
  by_cases h1 : 1048576 < path.size
  · rw [decide_eq_false (by omega)]
    have h1' : 1048576 < (path.size : Int) := by omega
    go_enter Tryd.func4, Tryd.ntmps4
    go_wp2
    go_ret
    exact ⟨rfl, rfl⟩
  have h1' : ¬ 1048576 < (path.size : Int) := by omega
  by_cases h2 : 1048576 < n
  · rw [decide_eq_false (by omega)]
    have h2' : 1048576 < (n : Int) := by omega
    go_enter Tryd.func4, Tryd.ntmps4
    go_wp2
    go_ret
    exact ⟨rfl, rfl⟩
  have h2' : ¬ 1048576 < (n : Int) := by omega
  by_cases h3 : 1048576 < path.size + n
  · rw [decide_eq_false (by omega)]
    have h3' : 1048576 < (path.size : Int) + (n : Int) := by omega
    go_enter Tryd.func4, Tryd.ntmps4
    go_wp2
    go_ret
    exact ⟨rfl, rfl⟩
  · rw [decide_eq_true (by omega)]
    have h3' : ¬ 1048576 < (path.size : Int) + (n : Int) := by omega
    go_enter Tryd.func4, Tryd.ntmps4
    go_wp2
    go_ret
    exact ⟨rfl, rfl⟩

theorem isPath_any (path : ByteArray) (line : Int) (a0 : -9223372036854775808 ≤ line) (a1 : line ≤ 9223372036854775807) (g cap : Nat) (w : World) (hp : path.size ≤ 10000000)
    (hcell : Lies w g (tl path line)) (hcap : (tl path line).length ≤ cap) :
    Calls Tryd.prog 6 #[.slice (some ⟨g, 0, none⟩) (tl path line).length cap, .string path, .int .i64 line] w fun e w' => e = .returned (.bool true) ∧ ∃ k, w' = w.drewN k := by
  have hlen := Lib.itoa_length_le line a0 a1
  rw [tl_length] at hcap ⊢
  unfold tl at hcell
  rcases Int.lt_trichotomy line 0 with h | h | h
  · obtain ⟨u, rfl⟩ : ∃ u : Nat, line = -(u : Int) := ⟨line.natAbs, by omega⟩
    rw [itoa_minus u (by omega)] at *
    obtain ⟨c, l, e, hc⟩ := head_dec u (by omega)
    have := isPath_neg path (Lib.decDigits u) g cap w (digit_dec u) (by rw [e]; simp) (by simp only [e]; simp; omega) (by rw [num_dec]; omega) (by simp at hlen; omega) hp hcell hcap
    rw [num_dec] at this
    exact this
  · subst h
    have e : Lib.itoa 0 = [48] := by
      have h0 : (0 : Int) = ((0 : Nat) : Int) := rfl
      rw [h0, itoa_pos 0, Lib.decDigits_one (by omega)]; rfl
    rw [e] at hcell hcap ⊢
    exact isPath_zero path g cap w hp hcell hcap
  · obtain ⟨u, rfl⟩ : ∃ u : Nat, line = (u : Int) := ⟨line.toNat, by omega⟩
    rw [itoa_pos u] at *
    obtain ⟨c, l, e, hc⟩ := head_dec u (by omega)
    have := isPath_pos path (Lib.decDigits u) g cap w (digit_dec u) (by rw [e]; simp) (by simp only [e]; simp; omega) (by rw [num_dec]; omega) (by omega) hp hcell hcap
    rw [num_dec] at this
    exact this
end Go.Proofs.Qxb6618475aDoor
