import Derived.Test.Qxb6618475aDoorRows
import Derived.Test.Qxb6618475aDoorNum
import Derived.WalkKit
import Derived.ProofKit
import Derived.OpenShut
import Derived.Deep.QuietTactic
import Derived.BigQuiet
namespace Go.Proofs.Qxb6618475aDoor
open Go.ChangeShapes Go.WideShapes Go.ChangeAt Go.RowKit
set_option linter.unusedVariables false
def intOf : Value → Int | .int _ n => n | _ => 0

/-- The bytes lie in block g from its first cell on. -/
def Lies (w : World) (g : Nat) (l : List UInt8) : Prop := ∀ j c, l[j]? = some c → w.cell? ⟨g, j, none⟩ = some (.int .u8 (c.toNat : Int))

theorem lies_path {w : World} {g : Nat} {path : ByteArray} {r : List UInt8} (hcell : Lies w g (path.data.toList ++ 58 :: r)) : ∀ k (h : k < path.size), w.cell? ⟨g, k, none⟩ = some (.int .u8 (path[k].toNat : Int)) := by
  intro k h
  refine hcell k path[k] ?_
  rw [List.getElem?_append_left (by simpa using h), List.getElem?_eq_getElem (by simpa using h)]
  rfl
theorem lies_colon {w : World} {g : Nat} {path : ByteArray} {r : List UInt8} (hcell : Lies w g (path.data.toList ++ 58 :: r)) : w.cell? ⟨g, path.size, none⟩ = some (.int .u8 58) := by
  refine hcell path.size 58 ?_
  rw [List.getElem?_append_right (by simp), show path.size - path.data.toList.length = 0 from by simp]; rfl
theorem lies_rest {w : World} {g : Nat} {path : ByteArray} {r : List UInt8} (hcell : Lies w g (path.data.toList ++ 58 :: r)) : ∀ k (h : k < r.length), w.cell? ⟨g, path.size + 1 + k, none⟩ = some (.int .u8 (r[k].toNat : Int)) := by
  intro k h
  refine hcell (path.size + 1 + k) r[k] ?_
  rw [List.getElem?_append_right (by simp; omega), show path.size + 1 + k - path.data.toList.length = k + 1 from by simp; omega, List.getElem?_cons_succ, List.getElem?_eq_getElem h]

set_option maxHeartbeats 400000 in
/-- 'zzIsPathColonDecimal' at 0. -/
theorem isPath_zero (path : ByteArray) (g cap : Nat) (w : World) (hp : path.size ≤ 10000000) (hcell : Lies w g (path.data.toList ++ 58 :: [48])) (hcap : path.size + 1 + 1 ≤ cap) :
    Calls Tryd.prog 6 #[.slice (some ⟨g, 0, none⟩) (path.size + 1 + 1) cap, .string path, .int .i64 0] w fun e w' => e = .returned (.bool true) ∧ ∃ k, w' = w.drewN k := by
  have hc1 : Hid (∀ k (h : k < path.size), w.cell? ⟨g, k, none⟩ = some (.int .u8 (path[k].toNat : Int))) := lies_path hcell
  have hc2 := lies_colon hcell
  have hc3 : w.cell? ⟨g, path.size + 1, none⟩ = some (.int .u8 48) := lies_rest hcell 0 (by simp)
  clear hcell
  go_enter Tryd.func6, Tryd.ntmps6
  go_wp2
  go_loopw [7] (fun i wr => ∃ k n : Nat, k ≤ path.size ∧ i = .int .i64 k ∧ wr = w.drewN n) (fun i _ => path.size - (intOf i).toNat)
  case atStart => exact ⟨0, 0, by omega, rfl, rfl⟩
  case round =>
    obtain ⟨k, n, hk, rfl, rfl⟩ := hrel
    by_cases hlt : k < path.size
    · have hck := hc1.out k hlt
      have hki : (k : Int) < (path.size : Int) := by omega
      have hkj : (k : Int) < (path.size : Int) + 1 + (1 : Int) := by omega
      go_wp2
      go_quiet (fail)
      go_wp2
      exact ⟨⟨k + 1, n + nq, by omega, by go_num, rfl⟩, by simp [intOf]; omega⟩
    · obtain rfl : k = path.size := by omega
      go_wp2
      go_ret
      exact ⟨rfl, n, rfl⟩

set_option maxHeartbeats 1000000 in
/-- 'zzIsPathColonDecimal' at a positive number. -/
theorem isPath_pos (path : ByteArray) (ds : List UInt8) (g cap : Nat) (w : World) (hd : ∀ c ∈ ds, 48 ≤ c.toNat ∧ c.toNat ≤ 57) (h1 : 1 ≤ ds.length) (h0 : 49 ≤ (ds[0].toNat : Int)) (hnum : (num ds : Int) ≤ 9223372036854775807) (h21 : ds.length ≤ 30) (hp : path.size ≤ 10000000)
    (hcell : Lies w g (path.data.toList ++ 58 :: (ds))) (hcap : path.size + 1 + ds.length ≤ cap) :
    Calls Tryd.prog 6 #[.slice (some ⟨g, 0, none⟩) (path.size + 1 + ds.length) cap, .string path, .int .i64 (num ds : Int)] w fun e w' => e = .returned (.bool true) ∧ ∃ k, w' = w.drewN k := by
  have hc1 : Hid (∀ k (h : k < path.size), w.cell? ⟨g, k, none⟩ = some (.int .u8 (path[k].toNat : Int))) := lies_path hcell
  have hc2 := lies_colon hcell
  have HD : Hid (∀ k (h : k < ds.length), 48 ≤ (ds[k].toNat : Int) ∧ (ds[k].toNat : Int) ≤ 57) := fun k h => by
    have := hd ds[k] (List.getElem_mem h)
    omega
  have HN : Hid (∀ k (h : k < ds.length), (num (ds.take (k + 1)) : Int) = (num (ds.take k) : Int) * 10 + ((ds[k].toNat : Int) - 48) ∧ (num (ds.take k) : Int) * 10 + ((ds[k].toNat : Int) - 48) ≤ (num ds : Int)) := fun k h => by
    have a := num_take ds k h
    have b := num_le10 ds k h
    have c := hd ds[k] (List.getElem_mem h)
    omega
  have HC : Hid (∀ k (h : k < ds.length), w.cell? ⟨g, path.size + 1 + k, none⟩ = some (.int .u8 (ds[k].toNat : Int))) := lies_rest hcell
  have hs : w.cell? ⟨g, path.size + 1, none⟩ = some (.int .u8 (ds[0].toNat : Int)) := HC.out 0 h1
  have e45 : ((ds[0].toNat : Int) == 45) = false := beq_eq_false_iff_ne.2 (by omega)
  have e48 : ((ds[0].toNat : Int) == 48) = false := beq_eq_false_iff_ne.2 (by omega)
  clear hcell hd
  go_enter Tryd.func6, Tryd.ntmps6
  go_wp2
  go_loopw [7] (fun i wr => ∃ k n : Nat, k ≤ path.size ∧ i = .int .i64 k ∧ wr = w.drewN n) (fun i _ => path.size - (intOf i).toNat)
  case atStart => exact ⟨0, 0, by omega, rfl, rfl⟩
  case round =>
    obtain ⟨k, n, hk, rfl, rfl⟩ := hrel
    by_cases hlt : k < path.size
    · have hck := hc1.out k hlt
      have hki : (k : Int) < (path.size : Int) := by omega
      have hkj : (k : Int) < (path.size : Int) + 1 + (ds.length : Int) := by omega
      go_wp2
      go_quiet (fail)
      go_wp2
      exact ⟨⟨k + 1, n + nq, by omega, by go_num, rfl⟩, by simp [intOf]; omega⟩
    · obtain rfl : k = path.size := by omega
      go_wp2
      go_loop [10, 11, 12, 13] (fun i v c d => ∃ k : Nat, k ≤ ds.length ∧ i = .int .i64 k ∧ v = .int .i64 (-(num (ds.take k) : Int))) (fun i v c d => ds.length + 1 - (intOf i).toNat)
      case atStart => exact ⟨0, by omega, rfl, rfl⟩
      case round =>
        obtain ⟨k, hk, rfl, rfl⟩ := hrel
        by_cases hlt : k < ds.length
        · have hck := HC.out k hlt
          obtain ⟨hd1, hd2⟩ := HD.out k hlt
          obtain ⟨hn1, hn2⟩ := HN.out k hlt
          have HE : Hid ((num (ds.take (k + 1)) : Int) = (num (ds.take k) : Int) * 10 + ((ds[k].toNat : Int) - 48)) := hn1
          clear hn1
          generalize num (ds.take k) = N at *
          go_wp2
          go_round
          case rel => exact ⟨_, _, _, ⟨k + 1, by omega, by go_num, congrArg (Value.int .i64) (by rw [HE.out]; omega)⟩, rfl, rfl, rfl⟩
          case measure => simp [intOf]; omega
        · obtain rfl : k = ds.length := by omega
          rw [List.take_length]
          generalize num ds = M at *
          go_wp2
          go_ret
          exact ⟨rfl, n, rfl⟩

set_option maxHeartbeats 1000000 in
/-- 'zzIsPathColonDecimal' at a negative number. -/
theorem isPath_neg (path : ByteArray) (ds : List UInt8) (g cap : Nat) (w : World) (hd : ∀ c ∈ ds, 48 ≤ c.toNat ∧ c.toNat ≤ 57) (h1 : 1 ≤ ds.length) (h0 : 49 ≤ (ds[0].toNat : Int)) (hnum : (num ds : Int) - 1 ≤ 9223372036854775807) (h21 : ds.length ≤ 30) (hp : path.size ≤ 10000000)
    (hcell : Lies w g (path.data.toList ++ 58 :: (45 :: ds))) (hcap : path.size + 1 + (ds.length + 1) ≤ cap) :
    Calls Tryd.prog 6 #[.slice (some ⟨g, 0, none⟩) (path.size + 1 + (ds.length + 1)) cap, .string path, .int .i64 (-(num ds : Int))] w fun e w' => e = .returned (.bool true) ∧ ∃ k, w' = w.drewN k := by
  have hc1 : Hid (∀ k (h : k < path.size), w.cell? ⟨g, k, none⟩ = some (.int .u8 (path[k].toNat : Int))) := lies_path hcell
  have hc2 := lies_colon hcell
  have HD : Hid (∀ k (h : k < ds.length), 48 ≤ (ds[k].toNat : Int) ∧ (ds[k].toNat : Int) ≤ 57) := fun k h => by
    have := hd ds[k] (List.getElem_mem h)
    omega
  have HN : Hid (∀ k (h : k < ds.length), (num (ds.take (k + 1)) : Int) = (num (ds.take k) : Int) * 10 + ((ds[k].toNat : Int) - 48) ∧ (num (ds.take k) : Int) * 10 + ((ds[k].toNat : Int) - 48) ≤ (num ds : Int)) := fun k h => by
    have a := num_take ds k h
    have b := num_le10 ds k h
    have c := hd ds[k] (List.getElem_mem h)
    omega
  have hs : w.cell? ⟨g, path.size + 1, none⟩ = some (.int .u8 45) := lies_rest hcell 0 (by simp)
  have HC : Hid (∀ k (h : k < ds.length), w.cell? ⟨g, path.size + 1 + (k + 1), none⟩ = some (.int .u8 (ds[k].toNat : Int))) := fun k h => lies_rest hcell (k + 1) (by simpa using h)
  have hs2 : w.cell? ⟨g, path.size + 1 + 1, none⟩ = some (.int .u8 (ds[0].toNat : Int)) := HC.out 0 h1
  have e48 : ((ds[0].toNat : Int) == 48) = false := beq_eq_false_iff_ne.2 (by omega)
  clear hcell hd
  go_enter Tryd.func6, Tryd.ntmps6
  go_wp2
  go_loopw [7] (fun i wr => ∃ k n : Nat, k ≤ path.size ∧ i = .int .i64 k ∧ wr = w.drewN n) (fun i _ => path.size - (intOf i).toNat)
  case atStart => exact ⟨0, 0, by omega, rfl, rfl⟩
  case round =>
    obtain ⟨k, n, hk, rfl, rfl⟩ := hrel
    by_cases hlt : k < path.size
    · have hck := hc1.out k hlt
      have hki : (k : Int) < (path.size : Int) := by omega
      have hkj : (k : Int) < (path.size : Int) + 1 + ((ds.length + 1 : Nat) : Int) := by omega
      go_wp2
      go_quiet (fail)
      go_wp2
      exact ⟨⟨k + 1, n + nq, by omega, by go_num, rfl⟩, by simp [intOf]; omega⟩
    · obtain rfl : k = path.size := by omega
      go_wp2
      go_loop [10, 11, 12, 13] (fun i v c d => ∃ k : Nat, k ≤ ds.length ∧ i = .int .i64 ((k : Int) + 1) ∧ v = .int .i64 (-(num (ds.take k) : Int))) (fun i v c d => ds.length + 1 - (intOf i).toNat)
      case atStart => exact ⟨0, by omega, rfl, rfl⟩
      case round =>
        obtain ⟨k, hk, rfl, rfl⟩ := hrel
        by_cases hlt : k < ds.length
        · have hck := HC.out k hlt
          obtain ⟨hd1, hd2⟩ := HD.out k hlt
          obtain ⟨hn1, hn2⟩ := HN.out k hlt
          have HE : Hid ((num (ds.take (k + 1)) : Int) = (num (ds.take k) : Int) * 10 + ((ds[k].toNat : Int) - 48)) := hn1
          clear hn1
          generalize num (ds.take k) = N at *
          go_wp2
          go_round
          case rel => exact ⟨_, _, _, ⟨k + 1, by omega, by go_num, congrArg (Value.int .i64) (by rw [HE.out]; omega)⟩, rfl, rfl, rfl⟩
          case measure => simp [intOf]; omega
        · obtain rfl : k = ds.length := by omega
          rw [List.take_length]
          generalize num ds = M at *
          go_wp2
          go_ret
          exact ⟨rfl, n, rfl⟩
end Go.Proofs.Qxb6618475aDoor
