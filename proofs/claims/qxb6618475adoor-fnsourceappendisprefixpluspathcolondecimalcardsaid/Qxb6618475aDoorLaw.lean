import Derived.Test.Qxb6618475aDoorParts
import Derived.Laws.OwnMore
import Derived.Laws.Cover3
import Derived.Lib.Hide
namespace Go.Proofs.Qxb6618475aDoor
open Go.ChangeShapes Go.WideShapes Go.ChangeAt Go.RowKit
set_option linter.unusedVariables false

/-- Numbers as cells of bytes. -/
def zCells (zs : List Int) : List Value := zs.map fun z => Value.int .u8 z

theorem append_nil (path : ByteArray) (line : Int) (a0 : -9223372036854775808 ≤ line) (a1 : line ≤ 9223372036854775807) (w : World) (hn : path.size ≤ 100000000) (htab : Lib.TabIs Tryd.prog w powName .u64 Lib.pow10Tab) :
    Calls Tryd.prog 5 #[.agg #[.string path, .int .i64 line], .slice none 0 0] w fun e w' => ∃ g cap, e = .returned (.slice (some ⟨g, 0, none⟩) (tl path line).length cap) ∧
      w'.ownsRow w.heap.size 5 1 (.slice (some ⟨g, 0, none⟩) (tl path line).length cap) (tl path line).length (Lib.byteCells (tl path line)) ∧ Below w.heap.size w w' := by
  refine (append_tl path line a0 a1 (.slice none 0 0) 0 [] w.heap.size w (World.ownsRow_nil _ _ _ _) (Nat.le_refl _) (by omega) (Lib.tabBelow_of_tabIs htab)).mono ?_
  rintro e w' ⟨g, cap, rfl, ho, hb, -⟩
  rw [Nat.zero_add, List.nil_append] at ho
  exact ⟨g, cap, by rw [Nat.zero_add], ho, hb⟩

theorem out_front {w : World} {B g cap n t : Nat} {zs : List Int} {T : List UInt8} (ho : w.ownsRow B 5 1 (.slice (some ⟨g, 0, none⟩) (n + t) cap) (n + t) (zCells zs ++ Lib.byteCells T)) (hz : zs.length = n) (ht : T.length = t) :
    ∀ j (h : j < zs.length), w.cell? ⟨g, j, none⟩ = some (.int .u8 zs[j]) := by
  intro j h
  rw [ho.cellAt j (by omega), List.getElem?_append_left (by simpa [zCells] using h)]
  simp [zCells, h]
theorem out_back {w : World} {B g cap n t : Nat} {zs : List Int} {T : List UInt8} (ho : w.ownsRow B 5 1 (.slice (some ⟨g, 0, none⟩) (n + t) cap) (n + t) (zCells zs ++ Lib.byteCells T)) (hz : zs.length = n) (ht : T.length = t) :
    ∀ j (h : j < T.length), w.cell? ⟨g, n + j, none⟩ = some (.int .u8 (T[j].toNat : Int)) := by
  intro j h
  have e : n + j - (zCells zs).length = j := by simp [zCells]; omega
  rw [ho.cellAt (n + j) (by omega), List.getElem?_append_right (by simp [zCells]; omega), e]
  simp [Lib.byteCells, h]
theorem alone_cells {w : World} {B g cap : Nat} {T : List UInt8} (ho : w.ownsRow B 5 1 (.slice (some ⟨g, 0, none⟩) T.length cap) T.length (Lib.byteCells T)) :
    ∀ j (h : j < T.length), w.cell? ⟨g, j, none⟩ = some (.int .u8 (T[j].toNat : Int)) := by
  intro j h
  rw [ho.cellAt j (by omega)]
  simp [Lib.byteCells, h]
theorem alone_lies {w : World} {B g cap : Nat} {T : List UInt8} (ho : w.ownsRow B 5 1 (.slice (some ⟨g, 0, none⟩) T.length cap) T.length (Lib.byteCells T)) : Lies w g T := by
  intro j c hc
  obtain ⟨h, rfl⟩ := List.getElem?_eq_some_iff.1 hc
  exact alone_cells ho j h
theorem own_cap {w : World} {B g cap n : Nat} {xs : List Value} (ho : w.ownsRow B 5 1 (.slice (some ⟨g, 0, none⟩) n cap) n xs) : n ≤ cap := by
  rcases ho.2 with ⟨h, -⟩ | ⟨g', cap', cur, h, -, -, h2, -⟩
  · cases h
  · cases h; exact h2
theorem below_drewN {B : Nat} {a w : World} (h : Below B a w) (n : Nat) : Below B a (w.drewN n) := ⟨h.os, h.tape, h.output, h.size, h.block⟩
theorem made_row {w : World} {g n : Nat} {xs : List Value} (ho : w.ownsRow g 5 1 (.slice (some ⟨g, 0, none⟩) n n) n xs) : ∃ cur : List Value, w.heap[g]? = some (.cells cur.toArray 5 (0, 0)) ∧ cur.length = n := by
  rcases ho.2 with ⟨h, -⟩ | ⟨g', cap', cur, h, -, h1, -, -, h2, -⟩
  · cases h
  · cases h
    exact ⟨cur.toList, by simpa using h1, by simpa using h2⟩
theorem z_one (zs : List Int) : ∀ v ∈ zCells zs, v.oneCell' = true := by
  intro v hv
  simp only [zCells, List.mem_map] at hv
  obtain ⟨z, _, rfl⟩ := hv
  rfl
theorem own_of_row {w : World} {g n : Nat} {cur cs : List Value} (h : w.heap[g]? = some (.cells (splice cur 0 cs).toArray 5 (0, 0))) (hl : cs.length = n) (hc : cur.length = n) (hm : n ≤ maxLen) :
    w.ownsRow g 5 1 (.slice (some ⟨g, 0, none⟩) n n) n cs := by
  have e : splice cur 0 cs = cs := by
    unfold splice
    rw [List.take_zero, List.nil_append, List.drop_of_length_le (by omega), List.append_nil]
  rw [e] at h
  exact ⟨by omega, .inr ⟨g, n, _, rfl, Nat.le_refl _, h, Nat.le_refl _, hm, by simpa using hl, by simp; rw [List.take_of_length_le (by omega)]⟩⟩
theorem own_lt {w : World} {B g cap n : Nat} {xs : List Value} (ho : w.ownsRow B 5 1 (.slice (some ⟨g, 0, none⟩) n cap) n xs) : g < w.heap.size := (ho.lt g rfl).2

set_option maxHeartbeats 1000000 in
theorem law_nil (path : ByteArray) (line : Int) (a0 : -9223372036854775808 ≤ line) (a1 : line ≤ 9223372036854775807) (w : World) (hp : path.size ≤ 524288) (htab : Lib.TabIs Tryd.prog w powName .u64 Lib.pow10Tab) :
    Calls Tryd.prog 3 #[.string path, .int .i64 line, .slice none 0 0] w fun e w' => e = .returned (.bool true) ∧ Below w.heap.size w w' := by
  have hTl := tl_length path line
  have hIl := Lib.itoa_length_le line a0 a1
  have CB : Hid (∀ w : World, Calls Tryd.prog 4 #[.string path, .int .i64 line, .slice none 0 0] w fun e w' => e = .returned (.bool true) ∧ w = w') := fun w => by
    have h := bytes_any path line none 0 0 w (by unfold maxLen; omega) (by unfold maxLen; omega)
    rw [decide_eq_true (by omega)] at h
    exact h.mono fun e w' h => ⟨h.1, h.2.symm⟩
  have CA : Hid (∀ (sv : Value) (n : Nat) (xs : List Value) (B : Nat) (w : World), w.ownsRow B 5 1 sv n xs → B ≤ w.heap.size → n + path.size ≤ 100000000 → Lib.TabBelow Tryd.prog B w powName .u64 Lib.pow10Tab →
    Calls Tryd.prog 5 #[.agg #[.string path, .int .i64 line], sv] w fun e w' => ∃ g cap, e = .returned (.slice (some ⟨g, 0, none⟩) (n + (tl path line).length) cap) ∧
      w'.ownsRow B 5 1 (.slice (some ⟨g, 0, none⟩) (n + (tl path line).length) cap) (n + (tl path line).length) (xs ++ Lib.byteCells (tl path line)) ∧ Below B w w' ∧ Lib.OthersKept 5 none w w') := append_tl path line a0 a1
  have CN : Hid (∀ w : World, Lib.TabIs Tryd.prog w powName .u64 Lib.pow10Tab → Calls Tryd.prog 5 #[.agg #[.string path, .int .i64 line], .slice none 0 0] w fun e w' => ∃ g cap, e = .returned (.slice (some ⟨g, 0, none⟩) (tl path line).length cap) ∧
      w'.ownsRow w.heap.size 5 1 (.slice (some ⟨g, 0, none⟩) (tl path line).length cap) (tl path line).length (Lib.byteCells (tl path line)) ∧ Below w.heap.size w w') := fun w h => append_nil path line a0 a1 w (by omega) h
  have CI : Hid (∀ (g cap : Nat) (w : World), Lies w g (tl path line) → (tl path line).length ≤ cap → Calls Tryd.prog 6 #[.slice (some ⟨g, 0, none⟩) (tl path line).length cap, .string path, .int .i64 line] w fun e w' => e = .returned (.bool true) ∧ ∃ k, w' = w.drewN k) := fun g cap w h1 h2 => isPath_any path line a0 a1 g cap w (by omega) h1 h2
  have HT : Hid (Lib.TabBelow Tryd.prog w.heap.size w powName .u64 Lib.pow10Tab) := Lib.tabBelow_of_tabIs htab
  have ht : (tl path line).length ≤ 600000 := by omega
  clear htab hTl hIl
  have hu22 := Tryd.underlying22
  generalize tl path line = T at *
  have HO1 : Hid (w.ownsRow w.heap.size 5 1 (.slice none 0 0) 0 (zCells [])) := World.ownsRow_nil _ _ _ _
  have HB1 : Hid (Below w.heap.size w w) := Below.refl _ _
  go_enter Tryd.func3, Tryd.ntmps3
  go_wp2_with fail
  refine (CB.out _).mono ?_
  rintro e w' ⟨rfl, rfl⟩
  go_wp2_with fail
  refine (CA.out _ 0 _ w.heap.size _ (HO1.out.alloc _) (by have := (HB1.out).size; simp <;> omega) (by omega) (HT.out.on ((HB1.out).alloc (HB1.out).size _))).mono ?_
  rintro e w2 ⟨g1, cap1, rfl, ho2, hb2, hq2⟩
  have hk2 := hq2 _ _ (heap_alloc_new w _) (by simp) (by intro c fz e; cases e)
  obtain ⟨hs0, hs1⟩ := keepS hk2
  have HB2 : Hid (Below w.heap.size w w2) := ((HB1.out).alloc (HB1.out).size _).trans hb2
  have HO2 : Hid (w2.ownsRow w.heap.size 5 1 (.slice (some ⟨g1, 0, none⟩) (0 + T.length) cap1) (0 + T.length) (zCells [] ++ Lib.byteCells T)) := ho2
  have hz2 : w.heap.size < w2.heap.size := by have := hb2.size; simp at this; omega
  clear ho2 hb2 hq2 hk2
  go_wp2_with fail
  refine (CN.out _ (HT.out.on HB2.out).here).mono ?_
  rintro e w3 ⟨g2, cap2, rfl, ho3, hb3⟩
  have HO3 : Hid (w3.ownsRow w2.heap.size 5 1 (.slice (some ⟨g2, 0, none⟩) T.length cap2) T.length (Lib.byteCells T)) := ho3
  have HB3 : Hid (Below w.heap.size w w3) := HB2.out.trans (hb3.mono HB2.out.size)
  have HC2 : Hid (∀ j (h : j < T.length), w3.cell? ⟨g1, 0 + j, none⟩ = some (.int .u8 (T[j].toNat : Int))) := fun j h => (hb3.cell (p := ⟨g1, 0 + j, none⟩) (own_lt HO2.out)).trans (out_back HO2.out rfl rfl j h)
  have HC3 : Hid (∀ j (h : j < T.length), w3.cell? ⟨g2, j, none⟩ = some (.int .u8 (T[j].toNat : Int))) := alone_cells ho3
  clear ho3 hb3 hs0 hs1
  go_wp2_with fail
  go_loop [11] (fun i => i = .int .i64 0) (fun i => 0)
  case atStart => rfl
  case round =>
    subst hrel
    go_wp2_with fail
    go_loopw [12] (fun i wr => ∃ k n : Nat, k ≤ T.length ∧ i = .int .i64 k ∧ wr = w3.drewN n) (fun i _ => T.length - (intOf i).toNat)
    case atStart => exact ⟨0, 0, by omega, rfl, rfl⟩
    case round =>
      obtain ⟨k, n, hk, rfl, rfl⟩ := hrel
      by_cases hlt : k < T.length
      · have c2 : w3.cell? ⟨g1, k, none⟩ = some (.int .u8 (T[k].toNat : Int)) := by have := HC2.out k hlt; rwa [Nat.zero_add] at this
        have c3 := HC3.out k hlt
        have hki : (k : Int) < (T.length : Int) := by omega
        go_wp2
        go_quiet (fail)
        go_wp2
        exact ⟨⟨k + 1, n + nq, by omega, by go_num, rfl⟩, by simp [intOf]; omega⟩
      · obtain rfl : k = T.length := by omega
        go_wp2_with fail
        refine (CI.out g2 cap2 (w3.drewN n) (show Lies (w3.drewN n) g2 T from fun j c h => alone_lies HO3.out j c h) (own_cap HO3.out)).mono ?_
        rintro e w4 ⟨rfl, m, rfl⟩
        go_wp2
        go_ret
        exact ⟨rfl, below_drewN HB3.out _⟩

theorem infoSize : (Tryd.prog.info? 5).map (·.size) = some 1 := by kernel_rfl

/-- The copy into the row that the call has made. -/
theorem copy_run {w : World} (zs : List Int) (g bb off cap : Nat) (cur : List Value) (w0 : World) (hr0 : w0.heap[g]? = some (.cells cur.toArray 5 (0, 0))) (hr1 : cur.length = zs.length)
    (hsrc : ∀ j v, (zCells zs)[j]? = some v → w0.cell? ((⟨bb, off, none⟩ : Addr).add j) = some v) (hB0 : Below g w w0) :
    ∃ w1, Sem.run Tryd.prog (Builtin.copy_ #[22, 22] 3 #[.slice (some ⟨g, 0, none⟩) zs.length zs.length, .slice (some ⟨bb, off, none⟩) zs.length cap]) w0 = .ok (.int .i64 zs.length) w1 ∧
      w1.heap[g]? = some (.cells (splice cur 0 (zCells zs)).toArray 5 (0, 0)) ∧ Below g w w1 := by
  have hcs : (zCells zs).length = zs.length := by simp [zCells]
  have h := run_copy_row (P := Tryd.prog) w0 22 22 3 5 g 0 zs.length zs.length ⟨bb, off, none⟩ zs.length cap cur.toArray 5 (zCells zs) Tryd.underlying22 infoSize hr0 (by rw [hcs]; simp) hsrc (by simp; omega) (z_one zs)
  rw [hcs] at h
  refine ⟨_, h, ?_, below_setRow hB0 (Nat.le_refl _) _⟩
  have := setRow_heap w0 g _ (cur.take 0 ++ (zCells zs ++ cur.drop (0 + (zCells zs).length))).toArray 5 _ hr0
  rw [hcs] at this
  simpa [splice, hcs] using this

set_option maxHeartbeats 2000000 in
theorem law_some (path : ByteArray) (line : Int) (a0 : -9223372036854775808 ≤ line) (a1 : line ≤ 9223372036854775807) (bb off cap : Nat) (zs : List Int) (w : World) (hp : path.size ≤ 524288) (hn : zs.length ≤ 524288)
    (hb : Hid (∀ j (h : j < zs.length), w.cell? ⟨bb, off + j, none⟩ = some (.int .u8 zs[j]))) (htab : Lib.TabIs Tryd.prog w powName .u64 Lib.pow10Tab) :
    Calls Tryd.prog 3 #[.string path, .int .i64 line, .slice (some ⟨bb, off, none⟩) zs.length cap] w fun e w' => e = .returned (.bool true) ∧ Below w.heap.size w w' := by
  obtain ⟨i0, hi, hz0, hz1, hz2⟩ := info_parts infoByte
  have hTl := tl_length path line
  have hIl := Lib.itoa_length_le line a0 a1
  have CB : Hid (∀ w : World, Calls Tryd.prog 4 #[.string path, .int .i64 line, .slice (some ⟨bb, off, none⟩) zs.length cap] w fun e w' => e = .returned (.bool true) ∧ w = w') := fun w => by
    have h := bytes_any path line (some ⟨bb, off, none⟩) zs.length cap w (by unfold maxLen; omega) (by unfold maxLen; omega)
    rw [decide_eq_true (by omega)] at h
    exact h.mono fun e w' h => ⟨h.1, h.2.symm⟩
  have CA : Hid (∀ (sv : Value) (n : Nat) (xs : List Value) (B : Nat) (w : World), w.ownsRow B 5 1 sv n xs → B ≤ w.heap.size → n + path.size ≤ 100000000 → Lib.TabBelow Tryd.prog B w powName .u64 Lib.pow10Tab →
    Calls Tryd.prog 5 #[.agg #[.string path, .int .i64 line], sv] w fun e w' => ∃ g cap, e = .returned (.slice (some ⟨g, 0, none⟩) (n + (tl path line).length) cap) ∧
      w'.ownsRow B 5 1 (.slice (some ⟨g, 0, none⟩) (n + (tl path line).length) cap) (n + (tl path line).length) (xs ++ Lib.byteCells (tl path line)) ∧ Below B w w' ∧ Lib.OthersKept 5 none w w') := append_tl path line a0 a1
  have CN : Hid (∀ w : World, Lib.TabIs Tryd.prog w powName .u64 Lib.pow10Tab → Calls Tryd.prog 5 #[.agg #[.string path, .int .i64 line], .slice none 0 0] w fun e w' => ∃ g cap, e = .returned (.slice (some ⟨g, 0, none⟩) (tl path line).length cap) ∧
      w'.ownsRow w.heap.size 5 1 (.slice (some ⟨g, 0, none⟩) (tl path line).length cap) (tl path line).length (Lib.byteCells (tl path line)) ∧ Below w.heap.size w w') := fun w h => append_nil path line a0 a1 w (by omega) h
  have CI : Hid (∀ (g cap : Nat) (w : World), Lies w g (tl path line) → (tl path line).length ≤ cap → Calls Tryd.prog 6 #[.slice (some ⟨g, 0, none⟩) (tl path line).length cap, .string path, .int .i64 line] w fun e w' => e = .returned (.bool true) ∧ ∃ k, w' = w.drewN k) := fun g cap w h1 h2 => isPath_any path line a0 a1 g cap w (by omega) h1 h2
  have HT : Hid (Lib.TabBelow Tryd.prog w.heap.size w powName .u64 Lib.pow10Tab) := Lib.tabBelow_of_tabIs htab
  have ht : (tl path line).length ≤ 600000 := by omega
  clear htab hTl hIl
  have hu22 := Tryd.underlying22
  generalize tl path line = T at *
  go_enter Tryd.func3, Tryd.ntmps3
  go_wp2_with fail
  refine (CB.out _).mono ?_
  rintro e w' ⟨rfl, rfl⟩
  go_wp2_with (at_make; refine wpList_make_full _ rfl _ _ 22 rfl w.heap.size 5 i0 (.int .u8 0) 1 Tryd.underlying22 hi hz0 hz1 .i64 .i64 _ _ zs.length rfl rfl rfl rfl (by rw [hz2]; omega) (by unfold maxLen; omega) (Nat.le_refl _) ?_; intro w0 ho0 hg0; refine Hid.out ?_)
  refine Lib.hid ?_
  have hB0 : Below w.heap.size w w0 := (Below.refl _ w).grown hg0 (Nat.le_refl _) (fun k hk => by cases hk)
  obtain ⟨cur, hr0, hr1⟩ := made_row ho0
  have hcs : (zCells zs).length = zs.length := by simp [zCells]
  have hsrc : Hid (∀ j v, (zCells zs)[j]? = some v → w0.cell? ((⟨bb, off, none⟩ : Addr).add j) = some v) := fun j v hv => by
    obtain ⟨h, rfl⟩ := List.getElem?_eq_some_iff.1 hv
    have h' : j < zs.length := by rw [← hcs]; exact h
    have e : (⟨bb, off, none⟩ : Addr).add j = ⟨bb, off + j, none⟩ := by simp [Addr.add]
    have hc := hb.out j h'
    rw [e, hB0.cell (p := ⟨bb, off + j, none⟩) (World.block_lt_of_cell? w _ hc), hc]
    simp [zCells]
  clear ho0 hg0
  obtain ⟨w1, hrun, hG1, hB1⟩ := copy_run (w := w) zs w.heap.size bb off cap cur w0 hr0 hr1 hsrc.out hB0
  have HO1 : Hid (w1.ownsRow w.heap.size 5 1 (.slice (some ⟨w.heap.size, 0, none⟩) zs.length zs.length) zs.length (zCells zs)) := own_of_row hG1 hcs hr1 (by unfold maxLen; omega)
  have HB1 : Hid (Below w.heap.size w w1) := hB1
  clear hB0 hr0 hr1 hcs hsrc hG1 hB1
  go_wp2_with fail
  clear hrun
  refine (CA.out _ zs.length _ w.heap.size _ (HO1.out.alloc _) (by have := (HB1.out).size; simp <;> omega) (by omega) (HT.out.on ((HB1.out).alloc (HB1.out).size _))).mono ?_
  rintro e w2 ⟨g1, cap1, rfl, ho2, hb2, hq2⟩
  have hk2 := hq2 _ _ (heap_alloc_new w1 _) (by simp) (by intro c fz e; cases e)
  obtain ⟨hs0, hs1⟩ := keepS hk2
  have HB2 : Hid (Below w.heap.size w w2) := ((HB1.out).alloc (HB1.out).size _).trans hb2
  have HO2 : Hid (w2.ownsRow w.heap.size 5 1 (.slice (some ⟨g1, 0, none⟩) (zs.length + T.length) cap1) (zs.length + T.length) (zCells zs ++ Lib.byteCells T)) := ho2
  have hz2 : w1.heap.size < w2.heap.size := by have := hb2.size; simp at this; omega
  clear ho2 hb2 hq2 hk2
  go_wp2_with fail
  refine (CN.out _ (HT.out.on HB2.out).here).mono ?_
  rintro e w3 ⟨g2, cap2, rfl, ho3, hb3⟩
  have HO3 : Hid (w3.ownsRow w2.heap.size 5 1 (.slice (some ⟨g2, 0, none⟩) T.length cap2) T.length (Lib.byteCells T)) := ho3
  have HB3 : Hid (Below w.heap.size w w3) := HB2.out.trans (hb3.mono HB2.out.size)
  have HC2 : Hid (∀ j (h : j < T.length), w3.cell? ⟨g1, zs.length + j, none⟩ = some (.int .u8 (T[j].toNat : Int))) := fun j h => (hb3.cell (p := ⟨g1, zs.length + j, none⟩) (own_lt HO2.out)).trans (out_back HO2.out rfl rfl j h)
  have HC3 : Hid (∀ j (h : j < T.length), w3.cell? ⟨g2, j, none⟩ = some (.int .u8 (T[j].toNat : Int))) := alone_cells ho3
  have HC1 : Hid (∀ j (h : j < zs.length), w3.cell? ⟨g1, j, none⟩ = some (.int .u8 zs[j])) := fun j h => (hb3.cell (p := ⟨g1, j, none⟩) (own_lt HO2.out)).trans (out_front HO2.out rfl rfl j h)
  have HC4 : Hid (∀ j (h : j < zs.length), w3.cell? ⟨bb, off + j, none⟩ = some (.int .u8 zs[j])) := fun j h => (HB3.out.cell (p := ⟨bb, off + j, none⟩) (World.block_lt_of_cell? w _ (hb.out j h))).trans (hb.out j h)
  clear ho3 hb3 hs0 hs1
  go_wp2_with fail
  go_loopw [11] (fun i wr => ∃ k n : Nat, k ≤ zs.length ∧ i = .int .i64 k ∧ wr = w3.drewN n) (fun i _ => zs.length - (intOf i).toNat)
  case atStart => exact ⟨0, 0, by omega, rfl, rfl⟩
  case round =>
    obtain ⟨k, n1, hk, rfl, rfl⟩ := hrel
    by_cases hlt : k < zs.length
    · have c1 := HC1.out k hlt
      have c4 := HC4.out k hlt
      have hki : (k : Int) < (zs.length : Int) := by omega
      have hkj : (k : Int) < (zs.length : Int) + (T.length : Int) := by omega
      go_wp2
      go_quiet (fail)
      go_wp2
      exact ⟨⟨k + 1, n1 + nq, by omega, by go_num, rfl⟩, by simp [intOf]; omega⟩
    · obtain rfl : k = zs.length := by omega
      go_wp2_with fail
      go_loopw [12] (fun i wr => ∃ k n : Nat, k ≤ T.length ∧ i = .int .i64 k ∧ wr = w3.drewN n) (fun i _ => T.length - (intOf i).toNat)
      case atStart => exact ⟨0, n1, by omega, rfl, rfl⟩
      case round =>
        obtain ⟨k, n, hk, rfl, rfl⟩ := hrel
        by_cases hlt : k < T.length
        · have c2 := HC2.out k hlt
          have c3 := HC3.out k hlt
          have hki : (k : Int) < (T.length : Int) := by omega
          have hkj : (zs.length : Int) + (k : Int) < (zs.length : Int) + (T.length : Int) := by omega
          go_wp2
          go_quiet (fail)
          go_wp2
          exact ⟨⟨k + 1, n + nq, by omega, by go_num, rfl⟩, by simp [intOf]; omega⟩
        · obtain rfl : k = T.length := by omega
          go_wp2_with fail
          refine (CI.out g2 cap2 (w3.drewN n) (show Lies (w3.drewN n) g2 T from fun j c h => alone_lies HO3.out j c h) (own_cap HO3.out)).mono ?_
          rintro e w4 ⟨rfl, m, rfl⟩
          go_wp2
          go_ret
          exact ⟨rfl, below_drewN HB3.out _⟩
end Go.Proofs.Qxb6618475aDoor
