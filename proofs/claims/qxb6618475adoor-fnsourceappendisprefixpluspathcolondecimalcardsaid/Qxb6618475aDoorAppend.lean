import Derived.Test.Qxb6618475aDoorRows
import Derived.Test.Qxb6618475aDoorShelf
import Derived.WalkKit
import Derived.ProofKit
import Derived.OpenShut
import Derived.OwnWalk
import Derived.Deep.RegionHeld3
import Derived.Deep.AppendLies
import Derived.Lib.AppendStr
import Derived.Lib.ItoaLen
import Derived.Lib.OthersKept
namespace Go.Proofs.Qxb6618475aDoor
open Go.ChangeShapes Go.WideShapes Go.ChangeAt Go.RowKit
set_option linter.unusedVariables false

theorem infoByte : (Tryd.prog.info? 5).map (fun i => (i.zero, i.size, i.bytes)) = some (some (.int .u8 0), 1, 1) := by kernel_rfl

/-- append of a string's bytes, as one step of a region that draws. -/
theorem step_append_str {P : Program} {ops : Array Oper} {o : Oper} {a : Act} {w : World} {K : Act → World → Prop} {Q : Exit → Act → World → Prop} {E : Prop} (hgd : o.guard = none) (sl x : Operand) (t u : TypeId)
    (ho : o.op = .call { callee := .builtin .append, args := #[sl, x], argTypes := #[t, u] })
    (base : Nat) (e : TypeId) (i : TypeInfo) (ht : P.underlying t = some (.slice e)) (hu : P.underlying u = some .string) (hi : P.info? e = some i) (hz : i.zero = some (.int .u8 0))
    (hsize : i.size = 1) (hby : i.bytes = 1)
    (v : Value) (n : Nat) (xs : List Value) (hs : a.eval sl = v) (hown : w.ownsRow base e 1 v n xs) (s : ByteArray) (hx : a.eval x = .string s)
    (h63 : n + s.size ≤ maxLen) (hbytes : n + s.size ≤ 140737488355328) (hbase : base ≤ w.heap.size)
    (h : ∀ v' w', w'.ownsRow base e 1 v' (n + s.size) (xs ++ Lib.strCells s) → w.grownBy w' v.ownBlock → K (a.put o.dst v') w') :
    if Region.wanted o (yielded ops a.tmps) = true then Oper.wp P o a w K Q else E := by
  have hw : Region.wanted o (yielded ops a.tmps) = true := by simp [Region.wanted, hgd]
  rw [if_pos hw]
  obtain ⟨v', w', hrun, h1, h2, -⟩ := Lib.run_append_own_string (P := P) w base t u o.type e i ht hu hi hz hsize hby v n xs hown s h63 hbytes hbase
  unfold Oper.wp
  simp [execOp, ho, resolve, invoke, builtin, hs, hx, hrun, Result.andThen]
  exact h v' w' h1 h2

/-- append of a slice's cells, as one step of a region that draws. -/
theorem step_append_own {P : Program} {ops : Array Oper} {o : Oper} {a : Act} {w : World} {K : Act → World → Prop} {Q : Exit → Act → World → Prop} {E : Prop} (hgd : o.guard = none) (sl x : Operand) (t : TypeId)
    (ho : o.op = .call { callee := .builtin .append, args := #[sl, x], argTypes := #[t, t] })
    (base : Nat) (e : TypeId) (i : TypeInfo) (ht : P.underlying t = some (.slice e)) (hi : P.info? e = some i) (hz : i.zero = some (.int .u8 0))
    (hsize : i.size = 1) (hby : i.bytes = 1)
    (v : Value) (n : Nat) (xs : List Value) (hs : a.eval sl = v) (hown : w.ownsRow base e 1 v n xs) (ad : Addr) (m c : Nat) (news : List Value) (hx : a.eval x = .slice (some ad) m c) (hl : news.length = m * 1)
    (hnews : ∀ j u, news[j]? = some u → w.cell? (ad.add j) = some u) (h1 : ∀ u ∈ news, u.oneCell' = true)
    (h63 : n + m ≤ maxLen) (hbytes : (n + m) * 1 ≤ 140737488355328) (hbase : base ≤ w.heap.size)
    (h : ∀ v' w', w'.ownsRow base e 1 v' (n + m) (xs ++ news) → w.grownBy w' v.ownBlock → K (a.put o.dst v') w') :
    if Region.wanted o (yielded ops a.tmps) = true then Oper.wp P o a w K Q else E := by
  have hw : Region.wanted o (yielded ops a.tmps) = true := by simp [Region.wanted, hgd]
  rw [if_pos hw]
  obtain ⟨v', w', hrun, h2, h3, -⟩ := run_append_own (P := P) w base t o.type e i (.int .u8 0) 1 1 ht hi hz hsize hby rfl (by decide) v n xs hown ad m c news hl hnews h1 h63 hbytes hbase
  unfold Oper.wp
  simp [execOp, ho, resolve, invoke, builtin, hs, hx, hrun, Result.andThen]
  exact h v' w' h2 h3

theorem keepS {w : World} {b : Nat} {x y : Value} {t : TypeId} {f : Nat × Nat} (h : w.heap[b]? = some (.cells #[x, y] t f)) : w.cell? ⟨b, 0, none⟩ = some x ∧ w.cell? ⟨b, 1, none⟩ = some y :=
  ⟨by rw [cell_of_row w b 0 _ t f h]; rfl, by rw [cell_of_row w b 1 _ t f h]; rfl⟩

theorem old_alloc {w : World} {b : Nat} {o : Obj} (h : w.heap[b]? = some o) (o' : Obj) : (w.alloc o').heap[b]? = some o := by
  have hlt : b < w.heap.size := (Array.getElem?_eq_some_iff.1 h).1
  rw [Below.heap_alloc w o' b hlt, h]

theorem second_new (w : World) (o1 o2 : Obj) : ((w.alloc o1).alloc o2).heap[w.heap.size + 1]? = some o2 := by
  have h := heap_alloc_new (w.alloc o1) o2
  rwa [show (w.alloc o1).heap.size = w.heap.size + 1 from by simp] at h

/-- A block of another kind is not the owned row's. -/
theorem ne_of_kind {w : World} {B b n : Nat} {v : Value} {xs : List Value} {c : Array Value} {t : TypeId} {f : Nat × Nat} (h : w.ownsRow B 5 1 v n xs) (hb : w.heap[b]? = some (.cells c t f)) (ht : t ≠ 5) : some b ≠ v.ownBlock := by
  intro e
  obtain ⟨c', fz, hc⟩ := Lib.ownsRowF_kind (World.ownsRowF_of h) b e.symm
  rw [hb] at hc
  cases hc
  exact ht rfl

theorem kind_of {w : World} {B n : Nat} {v : Value} {xs : List Value} (h : w.ownsRow B 5 1 v n xs) : ∀ g, v.ownBlock = some g → ∃ c fz, w.heap[g]? = some (.cells c 5 fz) := Lib.ownsRowF_kind (World.ownsRowF_of h)

set_option maxRecDepth 100000 in
set_option maxHeartbeats 3200000 in
theorem append_any (path : ByteArray) (line : Int) (a0 : -9223372036854775808 ≤ line) (a1 : line ≤ 9223372036854775807) (sv : Value) (n : Nat) (xs : List Value) (B : Nat) (w : World)
    (hown : w.ownsRow B 5 1 sv n xs) (hBw : B ≤ w.heap.size) (hn : n + path.size ≤ 100000000) (htab : Lib.TabBelow Tryd.prog B w powName .u64 Lib.pow10Tab) :
    Calls Tryd.prog 5 #[.agg #[.string path, .int .i64 line], sv] w fun e w' => ∃ v', e = .returned v' ∧
      w'.ownsRow B 5 1 v' (n + path.size + 1 + (Lib.itoa line).length) (xs ++ Lib.strCells path ++ [.int .u8 58] ++ Lib.byteCells (Lib.itoa line)) ∧ Below B w w' ∧ Lib.OthersKept 5 none w w' := by
  obtain ⟨i0, hi, hz0, hz1, hz2⟩ := info_parts infoByte
  have HT : Hid (Lib.TabBelow Tryd.prog B w powName .u64 Lib.pow10Tab) := htab
  clear htab
  have HO : Hid (w.ownsRow B 5 1 sv n xs) := hown
  have HL : Hid (∀ k, sv.ownBlock = some k → B ≤ k ∧ k < w.heap.size) := hown.lt
  clear hown
  have HN : Hid (∀ j, some (w.heap.size + j) ≠ sv.ownBlock) := by
    intro j e
    have := (HL.out _ e.symm).2
    omega
  go_enter Tryd.func5, Tryd.ntmps5
  go_wp2_with fail
  go_region_held3 (fun w' => w'.cell? ⟨w.heap.size, 0, none⟩ = some (.string path) ∧ w'.cell? ⟨w.heap.size, 1, none⟩ = some (.int .i64 line))
    (first | go_keep | exact keepS hk3.out | exact keepS hk2.out | exact keepS hk1.out | exact keepS (old_alloc hk1.out _))
    (first
      | (refine step_append_str (by rfl) _ _ _ _ (by rfl) B 5 i0 Tryd.underlying22 Tryd.underlying9 hi hz0 hz1 hz2 sv n xs (by rfl) (by first | exact (HO.out.alloc _).drew | exact ((HO.out.alloc _).alloc _).drew) path (by rfl) (by unfold maxLen; omega) (by omega) (by simp <;> omega) ?_
         intro v1 w1 hown1 hg1
         have hk1 : Hid (w1.heap[w.heap.size]? = some (.cells #[.string path, .int .i64 line] 25 (0, 0))) := by
           refine (hg1.block _ (by simp <;> omega) (HN.out 0)).trans ?_
           first | exact heap_alloc_new w _ | exact old_alloc (heap_alloc_new w _) _
         have ho1 : Hid (w1.ownsRow B 5 1 v1 (n + path.size) (xs ++ Lib.strCells path)) := hown1
         have hb1 : Hid (Below B w w1) := by
           first
             | exact ((Below.refl B w).alloc hBw _).drew.grown hg1 (by simp <;> omega) (fun k hk => (HL.out k hk).1)
             | exact (((Below.refl B w).alloc hBw _).alloc (by simp <;> omega) _).drew.grown hg1 (by simp <;> omega) (fun k hk => (HL.out k hk).1)
         have hq1 : Hid (Lib.OthersKept 5 none w w1) := by
           first
             | exact ((Lib.OthersKept.refl 5 none w).alloc _).drew.grown hg1 (kind_of (HO.out.alloc _))
             | exact (((Lib.OthersKept.refl 5 none w).alloc _).alloc _).drew.grown hg1 (kind_of ((HO.out.alloc _).alloc _))
         have hG1 : Hid (World.grownBy _ w1 sv.ownBlock) := hg1
         clear hown1 hg1)
      | (refine step_append_own (by rfl) _ _ _ (by rfl) B 5 i0 Tryd.underlying22 hi hz0 hz1 hz2 v1 (n + path.size) _ (by rfl) (ho1.out.alloc _) ⟨w1.heap.size, 0, none⟩ 1 1 [.int .u8 58] (by rfl) (by rfl) (World.news_of_block (heap_alloc_new w1 _)) (by simp [Value.oneCell']) (by unfold maxLen; omega) (by omega) (by have := hG1.out.size; simp at this; simp <;> omega) ?_
         intro v2 w2 hown2 hg2
         have hk2 : Hid (w2.heap[w.heap.size]? = some (.cells #[.string path, .int .i64 line] 25 (0, 0))) := (hg2.block _ (by have := hG1.out.size; simp at this; simp <;> omega) (ne_of_kind ho1.out hk1.out (by decide))).trans (old_alloc hk1.out _)
         have ho2 : Hid (w2.ownsRow B 5 1 v2 (n + path.size + 1) (xs ++ Lib.strCells path ++ [.int .u8 58])) := hown2
         have hb2 : Hid (Below B w w2) := (hb1.out.alloc (by have := hG1.out.size; simp at this; omega) _).grown hg2 (by have := hG1.out.size; simp at this; simp <;> omega) (fun k hk => (ho1.out.lt k hk).1)
         have hq2 : Hid (Lib.OthersKept 5 none w w2) := (hq1.out.alloc _).grown hg2 (kind_of (ho1.out.alloc _))
         clear hown2 hg2)
      | (refine step_append_own (by rfl) _ _ _ (by rfl) B 5 i0 Tryd.underlying22 hi hz0 hz1 hz2 v1 (n + path.size) _ (by rfl) ho1.out ⟨w.heap.size + 1, 0, none⟩ 1 1 [.int .u8 58] (by rfl) (by rfl) (World.news_of_block (cs := #[.int .u8 58]) ((hG1.out.block (w.heap.size + 1) (by simp <;> omega) (HN.out 1)).trans (second_new w _ _))) (by simp [Value.oneCell']) (by unfold maxLen; omega) (by omega) (by have := hG1.out.size; simp at this; omega) ?_
         intro v2 w2 hown2 hg2
         have hk2 : Hid (w2.heap[w.heap.size]? = some (.cells #[.string path, .int .i64 line] 25 (0, 0))) := (hg2.block _ (by have := hG1.out.size; simp at this; omega) (ne_of_kind ho1.out hk1.out (by decide))).trans hk1.out
         have ho2 : Hid (w2.ownsRow B 5 1 v2 (n + path.size + 1) (xs ++ Lib.strCells path ++ [.int .u8 58])) := hown2
         have hb2 : Hid (Below B w w2) := hb1.out.grown hg2 (by have := hG1.out.size; simp at this; omega) (fun k hk => (ho1.out.lt k hk).1)
         have hq2 : Hid (Lib.OthersKept 5 none w w2) := hq1.out.grown hg2 (kind_of ho1.out)
         clear hown2 hg2)
      | (go_at_call 7
         refine (Tryd.strconv_AppendInt_10 B (n + path.size + 1) line a0 a1 v2 _ w2 ho2.out (Nat.le_trans hBw hb2.out.size) (by omega) (HT.out.on hb2.out)).mono ?_
         rintro e w3 ⟨v3, rfl, ho3, hb3, hq3⟩
         have HO3 : Hid (w3.ownsRow B 5 1 v3 (n + path.size + 1 + (Lib.itoa line).length) (xs ++ Lib.strCells path ++ [.int .u8 58] ++ Lib.byteCells (Lib.itoa line))) := ho3
         have HB3 : Hid (Below B w w3) := hb2.out.trans hb3
         have HQ3 : Hid (Lib.OthersKept 5 none w w3) := hq2.out.trans hq3
         have hk3 : Hid (w3.heap[w.heap.size]? = some (.cells #[.string path, .int .i64 line] 25 (0, 0))) := hq3 _ _ hk2.out (by simp) (by intro c fz e; cases e)
         clear ho3 hb3 hq3))
  all_goals
    go_wp2
    go_ret
    exact ⟨_, rfl, HO3.out, HB3.out, HQ3.out⟩
end Go.Proofs.Qxb6618475aDoor
