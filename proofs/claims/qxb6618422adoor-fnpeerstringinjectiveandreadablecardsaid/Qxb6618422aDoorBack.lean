import Derived.Test.Qxb6618422aDoorRows
import Derived.Test.Qxb6618422aDoorShelf
import Derived.WalkKit
import Derived.ProofKit
import Derived.OpenShut
import Derived.ShutString
import Derived.Deep.QuietTactic
import Derived.BigQuiet
namespace Go.Proofs.Qxb6618422aDoor
open Go.ChangeShapes Go.WideShapes Go.ChangeAt Go.RowKit
set_option linter.unusedVariables false

def intOf : Value → Int | .int _ n => n | _ => 0
theorem g10 (a : UInt8) (h : 0 < (⟨#[a]⟩ : ByteArray).size) : (⟨#[a]⟩ : ByteArray)[0]'h = a := rfl

set_option maxHeartbeats 1000000 in
/-- 'zzPeerTextBack' at 1 digit. -/
theorem back1 (a : UInt8) (w : World) (ha1 : 48 ≤ (a.toNat : Int)) (ha2 : (a.toNat : Int) ≤ 57) :
    Calls Tryd.prog 7 #[.string ⟨#[80, 101, 101, 114, 40, a, 41]⟩] w fun e w' => e = .returned (.tuple #[.int .i64 ((a.toNat : Int) - 48), .bool true]) ∧ ∃ n, w' = w.drewN n := by
  go_enter Tryd.func7, Tryd.ntmps7
  go_wp2
  go_loopw [4] (fun i wr => ∃ k n : Nat, k ≤ 5 ∧ i = .int .i64 k ∧ wr = w.drewN n) (fun i _ => 5 - (intOf i).toNat)
  case atStart => exact ⟨0, 0, by omega, rfl, rfl⟩
  case round =>
    obtain ⟨k, n, hk, rfl, rfl⟩ := hrel
    by_cases hlt : k < 5
    · obtain rfl | rfl | rfl | rfl | rfl : k = 0 ∨ k = 1 ∨ k = 2 ∨ k = 3 ∨ k = 4 := by omega
      all_goals
        go_wp2
        go_quiet (fail)
        go_wp2
      · exact ⟨⟨1, _, by omega, rfl, rfl⟩, by decide⟩
      · exact ⟨⟨2, _, by omega, rfl, rfl⟩, by decide⟩
      · exact ⟨⟨3, _, by omega, rfl, rfl⟩, by decide⟩
      · exact ⟨⟨4, _, by omega, rfl, rfl⟩, by decide⟩
      · exact ⟨⟨5, _, by omega, rfl, rfl⟩, by decide⟩
    · obtain rfl : k = 5 := by omega
      have hx : ((⟨#[80, 101, 101, 114, 40, a, 41]⟩ : ByteArray).extract 5 6) = ⟨#[a]⟩ := rfl
      have k0 := g10 a
      go_wp2
      go_loop [6, 7, 8] (fun v i z => ∃ k : Nat, k ≤ 1 ∧ i = .int .i64 k ∧ v = .int .i64 (if k = 0 then 0 else ((a.toNat : Int) - 48))) (fun v i z => 1 - (intOf i).toNat)
      case atStart => exact ⟨0, by omega, rfl, rfl⟩
      case round =>
        obtain ⟨k, hk, rfl, rfl⟩ := hrel
        obtain rfl | rfl : k = 0 ∨ k = 1 := by omega
        · go_wp2
          exact ⟨⟨_, _, _, _, ⟨1, by omega, rfl, rfl⟩, rfl, rfl, rfl, rfl⟩, by decide⟩
        · go_wp2
          go_ret2
          exact ⟨rfl, n, rfl⟩
theorem g20 (a b : UInt8) (h : 0 < (⟨#[a, b]⟩ : ByteArray).size) : (⟨#[a, b]⟩ : ByteArray)[0]'h = a := rfl
theorem g21 (a b : UInt8) (h : 1 < (⟨#[a, b]⟩ : ByteArray).size) : (⟨#[a, b]⟩ : ByteArray)[1]'h = b := rfl

set_option maxHeartbeats 1000000 in
/-- 'zzPeerTextBack' at 2 digits. -/
theorem back2 (a b : UInt8) (w : World) (ha1 : 49 ≤ (a.toNat : Int)) (ha2 : (a.toNat : Int) ≤ 57) (hb1 : 48 ≤ (b.toNat : Int)) (hb2 : (b.toNat : Int) ≤ 57) :
    Calls Tryd.prog 7 #[.string ⟨#[80, 101, 101, 114, 40, a, b, 41]⟩] w fun e w' => e = .returned (.tuple #[.int .i64 (((a.toNat : Int) - 48) * 10 + ((b.toNat : Int) - 48)), .bool true]) ∧ ∃ n, w' = w.drewN n := by
  have ha3 : ((a.toNat : Int) == 48) = false := beq_eq_false_iff_ne.2 (by omega)
  go_enter Tryd.func7, Tryd.ntmps7
  go_wp2
  go_loopw [4] (fun i wr => ∃ k n : Nat, k ≤ 5 ∧ i = .int .i64 k ∧ wr = w.drewN n) (fun i _ => 5 - (intOf i).toNat)
  case atStart => exact ⟨0, 0, by omega, rfl, rfl⟩
  case round =>
    obtain ⟨k, n, hk, rfl, rfl⟩ := hrel
    by_cases hlt : k < 5
    · obtain rfl | rfl | rfl | rfl | rfl : k = 0 ∨ k = 1 ∨ k = 2 ∨ k = 3 ∨ k = 4 := by omega
      all_goals
        go_wp2
        go_quiet (fail)
        go_wp2
      · exact ⟨⟨1, _, by omega, rfl, rfl⟩, by decide⟩
      · exact ⟨⟨2, _, by omega, rfl, rfl⟩, by decide⟩
      · exact ⟨⟨3, _, by omega, rfl, rfl⟩, by decide⟩
      · exact ⟨⟨4, _, by omega, rfl, rfl⟩, by decide⟩
      · exact ⟨⟨5, _, by omega, rfl, rfl⟩, by decide⟩
    · obtain rfl : k = 5 := by omega
      have hx : ((⟨#[80, 101, 101, 114, 40, a, b, 41]⟩ : ByteArray).extract 5 7) = ⟨#[a, b]⟩ := rfl
      have k0 := g20 a b
      have k1 := g21 a b
      go_wp2
      go_loop [6, 7, 8] (fun v i z => ∃ k : Nat, k ≤ 2 ∧ i = .int .i64 k ∧ v = .int .i64 (if k = 0 then 0 else (if k = 1 then ((a.toNat : Int) - 48) else (((a.toNat : Int) - 48) * 10 + ((b.toNat : Int) - 48))))) (fun v i z => 2 - (intOf i).toNat)
      case atStart => exact ⟨0, by omega, rfl, rfl⟩
      case round =>
        obtain ⟨k, hk, rfl, rfl⟩ := hrel
        obtain rfl | rfl | rfl : k = 0 ∨ k = 1 ∨ k = 2 := by omega
        · go_wp2
          exact ⟨⟨_, _, _, _, ⟨1, by omega, rfl, rfl⟩, rfl, rfl, rfl, rfl⟩, by decide⟩
        · go_wp2
          exact ⟨⟨_, _, _, _, ⟨2, by omega, rfl, rfl⟩, rfl, rfl, rfl, rfl⟩, by decide⟩
        · go_wp2
          go_ret2
          exact ⟨rfl, n, rfl⟩
theorem g30 (a b c : UInt8) (h : 0 < (⟨#[a, b, c]⟩ : ByteArray).size) : (⟨#[a, b, c]⟩ : ByteArray)[0]'h = a := rfl
theorem g31 (a b c : UInt8) (h : 1 < (⟨#[a, b, c]⟩ : ByteArray).size) : (⟨#[a, b, c]⟩ : ByteArray)[1]'h = b := rfl
theorem g32 (a b c : UInt8) (h : 2 < (⟨#[a, b, c]⟩ : ByteArray).size) : (⟨#[a, b, c]⟩ : ByteArray)[2]'h = c := rfl

set_option maxHeartbeats 1000000 in
/-- 'zzPeerTextBack' at 3 digits. -/
theorem back3 (a b c : UInt8) (w : World) (ha1 : 49 ≤ (a.toNat : Int)) (ha2 : (a.toNat : Int) ≤ 57) (hb1 : 48 ≤ (b.toNat : Int)) (hb2 : (b.toNat : Int) ≤ 57) (hc1 : 48 ≤ (c.toNat : Int)) (hc2 : (c.toNat : Int) ≤ 57) :
    Calls Tryd.prog 7 #[.string ⟨#[80, 101, 101, 114, 40, a, b, c, 41]⟩] w fun e w' => e = .returned (.tuple #[.int .i64 ((((a.toNat : Int) - 48) * 10 + ((b.toNat : Int) - 48)) * 10 + ((c.toNat : Int) - 48)), .bool true]) ∧ ∃ n, w' = w.drewN n := by
  have ha3 : ((a.toNat : Int) == 48) = false := beq_eq_false_iff_ne.2 (by omega)
  go_enter Tryd.func7, Tryd.ntmps7
  go_wp2
  go_loopw [4] (fun i wr => ∃ k n : Nat, k ≤ 5 ∧ i = .int .i64 k ∧ wr = w.drewN n) (fun i _ => 5 - (intOf i).toNat)
  case atStart => exact ⟨0, 0, by omega, rfl, rfl⟩
  case round =>
    obtain ⟨k, n, hk, rfl, rfl⟩ := hrel
    by_cases hlt : k < 5
    · obtain rfl | rfl | rfl | rfl | rfl : k = 0 ∨ k = 1 ∨ k = 2 ∨ k = 3 ∨ k = 4 := by omega
      all_goals
        go_wp2
        go_quiet (fail)
        go_wp2
      · exact ⟨⟨1, _, by omega, rfl, rfl⟩, by decide⟩
      · exact ⟨⟨2, _, by omega, rfl, rfl⟩, by decide⟩
      · exact ⟨⟨3, _, by omega, rfl, rfl⟩, by decide⟩
      · exact ⟨⟨4, _, by omega, rfl, rfl⟩, by decide⟩
      · exact ⟨⟨5, _, by omega, rfl, rfl⟩, by decide⟩
    · obtain rfl : k = 5 := by omega
      have hx : ((⟨#[80, 101, 101, 114, 40, a, b, c, 41]⟩ : ByteArray).extract 5 8) = ⟨#[a, b, c]⟩ := rfl
      have k0 := g30 a b c
      have k1 := g31 a b c
      have k2 := g32 a b c
      go_wp2
      go_loop [6, 7, 8] (fun v i z => ∃ k : Nat, k ≤ 3 ∧ i = .int .i64 k ∧ v = .int .i64 (if k = 0 then 0 else (if k = 1 then ((a.toNat : Int) - 48) else (if k = 2 then (((a.toNat : Int) - 48) * 10 + ((b.toNat : Int) - 48)) else ((((a.toNat : Int) - 48) * 10 + ((b.toNat : Int) - 48)) * 10 + ((c.toNat : Int) - 48)))))) (fun v i z => 3 - (intOf i).toNat)
      case atStart => exact ⟨0, by omega, rfl, rfl⟩
      case round =>
        obtain ⟨k, hk, rfl, rfl⟩ := hrel
        obtain rfl | rfl | rfl | rfl : k = 0 ∨ k = 1 ∨ k = 2 ∨ k = 3 := by omega
        · go_wp2
          exact ⟨⟨_, _, _, _, ⟨1, by omega, rfl, rfl⟩, rfl, rfl, rfl, rfl⟩, by decide⟩
        · go_wp2
          exact ⟨⟨_, _, _, _, ⟨2, by omega, rfl, rfl⟩, rfl, rfl, rfl, rfl⟩, by decide⟩
        · go_wp2
          exact ⟨⟨_, _, _, _, ⟨3, by omega, rfl, rfl⟩, rfl, rfl, rfl, rfl⟩, by decide⟩
        · go_wp2
          go_ret2
          exact ⟨rfl, n, rfl⟩

end Go.Proofs.Qxb6618422aDoor
