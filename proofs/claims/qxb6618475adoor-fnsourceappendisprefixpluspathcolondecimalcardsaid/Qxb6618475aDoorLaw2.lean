import Derived.Test.Qxb6618475aDoorLaw
namespace Go.Proofs.Qxb6618475aDoor
open Go.ChangeShapes Go.WideShapes Go.ChangeAt Go.RowKit
set_option linter.unusedVariables false

theorem copy_none (g : Nat) (a : Addr) (cap : Nat) (w0 : World) : Sem.run Tryd.prog (Builtin.copy_ #[22, 22] 3 #[.slice (some ⟨g, 0, none⟩) 0 0, .slice (some a) 0 cap]) w0 = .ok (.int .i64 0) w0 :=
  run_copy_none (P := Tryd.prog) w0 22 22 3 5 (some ⟨g, 0, none⟩) (some a) 0 0 0 cap Tryd.underlying22 infoSize rfl

theorem own_empty {w : World} {B : Nat} {v : Value} {xs : List Value} (h : w.ownsRow B 5 1 v 0 xs) : w.ownsRow B 5 1 v 0 (zCells []) := by
  have : xs = [] := List.eq_nil_of_length_eq_zero (by simpa using h.1)
  subst this
  exact h

set_option maxHeartbeats 2000000 in
theorem law_empty (path : ByteArray) (line : Int) (a0 : -9223372036854775808 ≤ line) (a1 : line ≤ 9223372036854775807) (a : Addr) (cap : Nat) (w : World) (hp : path.size ≤ 524288)
    (htab : Lib.TabIs Tryd.prog w powName .u64 Lib.pow10Tab) :
    Calls Tryd.prog 3 #[.string path, .int .i64 line, .slice (some a) 0 cap] w fun e w' => e = .returned (.bool true) ∧ Below w.heap.size w w' := by
  obtain ⟨i0, hi, hz0, hz1, hz2⟩ := info_parts infoByte
  have hTl := tl_length path line
  have hIl := Lib.itoa_length_le line a0 a1
  have CB : Hid (∀ w : World, Calls Tryd.prog 4 #[.string path, .int .i64 line, .slice (some a) 0 cap] w fun e w' => e = .returned (.bool true) ∧ w = w') := fun w => by
    have h := bytes_any path line (some a) 0 cap w (by unfold maxLen; omega) (by unfold maxLen; omega)
    rw [decide_eq_true (by omega)] at h
    exact h.mono fun e w' h => ⟨h.1, h.2.symm⟩
  have CA : Hid (∀ (sv : Value) (n : Nat) (xs : List Value) (B : Nat) (w : World), w.ownsRow B 5 1 sv n xs → B ≤ w.heap.size → n + path.size ≤ 100000000 → Lib.TabBelow Tryd.prog B w powName .u64 Lib.pow10Tab →
    Calls Tryd.prog 5 #[.agg #[.string path, .int .i64 line], sv] w fun e w' => ∃ g cap, e = .returned (.slice (some ⟨g, 0, none⟩) (n + (tl path line).length) cap) ∧
      w'.ownsRow B 5 1 (.slice (some ⟨g, 0, none⟩) (n + (tl path line).length) cap) (n + (tl path line).length) (xs ++ Lib.byteCells (tl path line)) ∧ Below B w w' ∧ Lib.OthersKept 5 none w w') := append_tl path line a0 a1
  have CN : Hid (∀ w : World, Lib.TabIs Tryd.prog w powName .u64 Lib.pow10Tab → Calls Tryd.prog 5 #[.agg #[.string path, .int .i64 line], .slice none 0 0] w fun e w' => ∃ g cap, e = .returned (.slice (some ⟨g, 0, none⟩) (tl path line).length cap) ∧
      w'.ownsRow w.heap.size 5 1 (.slice (some ⟨g, 0, none⟩) (tl path line).length cap) (tl path line).length (Lib.byteCells (tl path line)) ∧ Below w.heap.size w w') := fun w h => append_nil path line a0 a1 w (by omega) h
  have CI : Hid (∀ (g cap : Nat) (w : World), Lies w g (tl path line) → (tl path line).length ≤ cap → Calls Tryd.prog 6 #[.slice (some ⟨g, 0, none⟩) (tl path line).length cap, .string path, .int .i64 line] w fun e w' => e = .returned (.bool true) ∧ ∃ k, w' = w.drewN k) := fun g cap w h1 h2 => isPath_any path line a0 a1 g cap w (by omega) h1 h2
  have HT : Hid (Lib.TabBelow Tryd.prog w.heap.size w powName .u64 Lib.pow10Tab) := Lib.tabBelow_of_tabIs htab
  have ht : (tl path line).length ≤ 600000 := by omega
  clear htab hTl hIl
  have hu22 := Tryd.underlying22
  generalize tl path line = T at *
  go_enter Tryd.func3, Tryd.ntmps3
  go_wp2_with fail
  refine (CB.out _).mono ?_
  rintro e w' ⟨rfl, rfl⟩
  go_wp2_with (at_make; refine wpList_make_full _ rfl _ _ 22 rfl w.heap.size 5 i0 (.int .u8 0) 1 Tryd.underlying22 hi hz0 hz1 .i64 .i64 _ _ 0 rfl rfl rfl rfl (by rw [hz2]; omega) (by unfold maxLen; omega) (Nat.le_refl _) ?_; intro w0 ho0 hg0; refine Hid.out ?_)
  refine Lib.hid ?_
  have HB1 : Hid (Below w.heap.size w w0) := (Below.refl _ w).grown hg0 (Nat.le_refl _) (fun k hk => by cases hk)
  have HO1 : Hid (w0.ownsRow w.heap.size 5 1 (.slice (some ⟨w.heap.size, 0, none⟩) 0 0) 0 (zCells [])) := own_empty ho0
  clear ho0 hg0
  have hrun := copy_none w.heap.size a cap w0
  go_wp2_with fail
  clear hrun
  refine (CA.out _ 0 _ w.heap.size _ (HO1.out.alloc _) (by have := (HB1.out).size; simp <;> omega) (by omega) (HT.out.on ((HB1.out).alloc (HB1.out).size _))).mono ?_
  rintro e w2 ⟨g1, cap1, rfl, ho2, hb2, hq2⟩
  have hk2 := hq2 _ _ (heap_alloc_new w0 _) (by simp) (by intro c fz e; cases e)
  obtain ⟨hs0, hs1⟩ := keepS hk2
  have HB2 : Hid (Below w.heap.size w w2) := ((HB1.out).alloc (HB1.out).size _).trans hb2
  have HO2 : Hid (w2.ownsRow w.heap.size 5 1 (.slice (some ⟨g1, 0, none⟩) (0 + T.length) cap1) (0 + T.length) (zCells [] ++ Lib.byteCells T)) := ho2
  have hz2 : w0.heap.size < w2.heap.size := by have := hb2.size; simp at this; omega
  clear ho2 hb2 hq2 hk2
  go_wp2_with fail
  refine (CN.out _ (HT.out.on HB2.out).here).mono ?_
  rintro e w3 ⟨g2, cap2, rfl, ho3, hb3⟩
  have HO3 : Hid (w3.ownsRow w2.heap.size 5 1 (.slice (some ⟨g2, 0, none⟩) T.length cap2) T.length (Lib.byteCells T)) := ho3
  have HB3 : Hid (Below w.heap.size w w3) := HB2.out.trans (hb3.mono HB2.out.size)
  have HC2 : Hid (∀ j (h : j < T.length), w3.cell? ⟨g1, 0 + j, none⟩ = some (.int .u8 (T[j].toNat : Int))) := fun j h => (hb3.cell (p := ⟨g1, 0 + j, none⟩) (own_lt HO2.out)).trans (out_back HO2.out rfl rfl j h)
  have HC3 : Hid (∀ j (h : j < T.length), w3.cell? ⟨g2, j, none⟩ = some (.int .u8 (T[j].toNat : Int))) := alone_cells ho3
  clear ho3 hb3 hs0 hs1
  go_wp2_with fail
  go_loop [11] (fun i => i = .int .i64 0) (fun i => 0)
  case atStart => rfl
  case round =>
    subst hrel
    go_wp2_with fail
    go_loopw [12] (fun i wr => ∃ k n : Nat, k ≤ T.length ∧ i = .int .i64 k ∧ wr = w3.drewN n) (fun i _ => T.length - (intOf i).toNat)
    case atStart => exact ⟨0, 0, by omega, rfl, rfl⟩
    case round =>
      obtain ⟨k, n, hk, rfl, rfl⟩ := hrel
      by_cases hlt : k < T.length
      · have c2 : w3.cell? ⟨g1, k, none⟩ = some (.int .u8 (T[k].toNat : Int)) := by have := HC2.out k hlt; rwa [Nat.zero_add] at this
        have c3 := HC3.out k hlt
        have hki : (k : Int) < (T.length : Int) := by omega
        go_wp2
        go_quiet (fail)
        go_wp2
        exact ⟨⟨k + 1, n + nq, by omega, by go_num, rfl⟩, by simp [intOf]; omega⟩
      · obtain rfl : k = T.length := by omega
        go_wp2_with fail
        refine (CI.out g2 cap2 (w3.drewN n) (show Lies (w3.drewN n) g2 T from fun j c h => alone_lies HO3.out j c h) (own_cap HO3.out)).mono ?_
        rintro e w4 ⟨rfl, m, rfl⟩
        go_wp2
        go_ret
        exact ⟨rfl, below_drewN HB3.out _⟩

/-- Too long: the law says nothing and answers true. -/
theorem law_big (path : ByteArray) (line : Int) (p : Option Addr) (n cap : Nat) (w : World) (hp : path.size ≤ maxLen) (hn : n ≤ maxLen) (h : 524288 < path.size ∨ 524288 < n) :
    Calls Tryd.prog 3 #[.string path, .int .i64 line, .slice p n cap] w fun e w' => e = .returned (.bool true) ∧ Below w.heap.size w w' := by
  have CB : Hid (∀ w : World, Calls Tryd.prog 4 #[.string path, .int .i64 line, .slice p n cap] w fun e w' => e = .returned (.bool (decide (path.size + n ≤ 1048576))) ∧ w' = w) := fun w => bytes_any path line p n cap w hp hn
  unfold maxLen at hp hn
  cases hd : decide (path.size + n ≤ 1048576)
  · rw [hd] at CB
    clear hd h
    go_enter Tryd.func3, Tryd.ntmps3
    go_wp2_with fail
    refine (CB.out _).mono ?_
    rintro e w1 ⟨rfl, rfl⟩
    go_wp2_with fail
    go_ret
    exact ⟨rfl, Below.refl _ _⟩
  · rw [hd] at CB
    clear hd
    by_cases h1 : 524288 < path.size
    · have h1' : 524288 < (path.size : Int) := by omega
      clear h
      go_enter Tryd.func3, Tryd.ntmps3
      go_wp2_with fail
      refine (CB.out _).mono ?_
      rintro e w1 ⟨rfl, rfl⟩
      go_wp2_with fail
      go_ret
      exact ⟨rfl, Below.refl _ _⟩
    · have h1' : ¬ 524288 < (path.size : Int) := by omega
      have h2' : 524288 < (n : Int) := by omega
      clear h
      go_enter Tryd.func3, Tryd.ntmps3
      go_wp2_with fail
      refine (CB.out _).mono ?_
      rintro e w1 ⟨rfl, rfl⟩
      go_wp2_with fail
      go_ret
      exact ⟨rfl, Below.refl _ _⟩
end Go.Proofs.Qxb6618475aDoor
