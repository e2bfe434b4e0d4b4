import Derived.Test.Qxb6618457aLaw
namespace Go.Proofs.Qxb6618457a.Fp

theorem tri {a b c : Int} (h : c = a + b) : c.natAbs ≤ a.natAbs + b.natAbs := by subst h; exact Int.natAbs_add_le a b
theorem tri' {a b c : Int} (h : c = a - b) : c.natAbs ≤ a.natAbs + b.natAbs := by
  subst h; have := Int.natAbs_add_le a (-b); rwa [Int.natAbs_neg, ← Int.sub_eq_add_neg] at this

/-- The sums' part. -/
theorem sums_core {H L Y S T R : Int}
    (eS : 2 ^ 53 * (S - (H + Y)).natAbs ≤ (H + Y).natAbs)
    (eT : 2 ^ 53 * (T - (L + (H + Y - S))).natAbs ≤ (L + (H + Y - S)).natAbs)
    (eR : 2 ^ 53 * (R - (S + T)).natAbs ≤ (S + T).natAbs)
    (eL : 2 ^ 53 * L.natAbs ≤ (H + L).natAbs) : 2 ^ 53 * (R - (H + Y)).natAbs ≤ 3 * H.natAbs + 2 * Y.natAbs := by
  have a1 := tri (a := H) (b := Y) rfl
  have a2 := tri (a := H) (b := L) rfl
  have a3 := tri' (a := L) (b := S - (H + Y)) (c := L + (H + Y - S)) (by omega)
  have a4 := tri (a := H + Y) (b := L + (T - (L + (H + Y - S)))) (c := S + T) (by omega)
  have a5 := tri (a := L) (b := T - (L + (H + Y - S))) rfl
  have a6 := tri (a := R - (S + T)) (b := L + (T - (L + (H + Y - S)))) (c := R - (H + Y)) (by omega)
  generalize (R - (H + Y)).natAbs = v1 at *
  generalize (R - (S + T)).natAbs = v2 at *
  generalize (L + (T - (L + (H + Y - S)))).natAbs = v3 at *
  generalize (T - (L + (H + Y - S))).natAbs = v4 at *
  generalize (S + T).natAbs = v5 at *
  generalize (L + (H + Y - S)).natAbs = v6 at *
  generalize (S - (H + Y)).natAbs = v7 at *
  generalize (H + L).natAbs = v8 at *
  generalize (H + Y).natAbs = v9 at *
  generalize H.natAbs = v10 at *
  generalize L.natAbs = v11 at *
  generalize Y.natAbs = v12 at *
  omega

theorem id1 (x y : Int) : x = y + (x - y) := by omega
theorem id2 (U b : Nat) : ((U : Int) + (b : Int)).natAbs = U + b := by omega
theorem id3 (H P U B : Int) : H * P = H * (P - (U + B)) + (H * U + B * H) := by rw [Int.mul_sub, Int.mul_add, Int.mul_comm H B]; omega
theorem id4 (H P U B R V Y : Int) : (R - V) * U = ((R - (H + Y)) * U + (Y * U - B * H)) - (H * (P - (U + B)) + (V * U - H * P)) := by
  rw [id3 H P U B, Int.sub_mul, Int.sub_mul, Int.add_mul]; omega
theorem id5 {T : Int} {U : Nat} (hU : 0 < U) (h : 0 ≤ T * (U : Int)) : 0 ≤ T := by
  rcases Int.lt_or_le T 0 with hn | hn
  · have := Int.mul_neg_of_neg_of_pos hn (show (0 : Int) < U by omega); omega
  · exact hn
theorem id6 (x : Nat) (T : Int) (h : x ≤ T.natAbs) (h0 : 0 ≤ T) : (x : Int) ≤ T := by omega

set_option maxHeartbeats 1000000 in
/-- THE NEARNESS, out of the errors alone. -/
theorem near_core {H L B Y S T R P V Q1 Q2 Tol c : Int} {U : Nat}
    (hH : 2 ^ 200 ≤ H.natAbs)
    (eY : 2 ^ 53 * (Y * (U : Int) - B * H).natAbs ≤ (B * H).natAbs + 2 ^ 52 * U)
    (eS : 2 ^ 53 * (S - (H + Y)).natAbs ≤ (H + Y).natAbs)
    (eT : 2 ^ 53 * (T - (L + (H + Y - S))).natAbs ≤ (L + (H + Y - S)).natAbs)
    (eR : 2 ^ 53 * (R - (S + T)).natAbs ≤ (S + T).natAbs)
    (eL : 2 ^ 53 * L.natAbs ≤ (H + L).natAbs)
    (eP : 2 ^ 53 * (P - ((U : Int) + B)).natAbs ≤ ((U : Int) + B).natAbs)
    (eV : 2 ^ 53 * (V * (U : Int) - H * P).natAbs ≤ (H * P).natAbs + 2 ^ 52 * U)
    (eQ1 : 2 ^ 53 * (Q1 - ((U : Int) + B.natAbs)).natAbs ≤ ((U : Int) + B.natAbs).natAbs)
    (eQ2 : 2 ^ 53 * (Q2 * (U : Int) - (H.natAbs : Int) * Q1).natAbs ≤ ((H.natAbs : Int) * Q1).natAbs + 2 ^ 52 * U)
    (eTol : 2 ^ 53 * (Tol * (U : Int) - c * Q2).natAbs ≤ (c * Q2).natAbs + 2 ^ 52 * U)
    (hc : 2 ^ 49 * c = U) (hU : 0 < U) :
    ((R - V).natAbs : Int) ≤ Tol := by
  have m1 := Nat.mul_le_mul_right U (sums_core eS eT eR eL)
  have k12 : 2 ^ 200 * U ≤ H.natAbs * U := Nat.mul_le_mul_right _ hH
  -- products of natural numbers
  have nR : (R - (H + Y)).natAbs * U = ((R - (H + Y)) * (U : Int)).natAbs := by rw [Int.natAbs_mul, Int.natAbs_natCast]
  have nY : Y.natAbs * U = (Y * (U : Int)).natAbs := by rw [Int.natAbs_mul, Int.natAbs_natCast]
  have nB : (B * H).natAbs = H.natAbs * B.natAbs := by rw [Int.natAbs_mul, Nat.mul_comm]
  have nHU : (H * (U : Int)).natAbs = H.natAbs * U := by rw [Int.natAbs_mul, Int.natAbs_natCast]
  rw [Nat.mul_assoc, Nat.add_mul, Nat.mul_assoc, Nat.mul_assoc, nR, nY] at m1
  -- Y
  have y1 := tri (a := B * H) (b := Y * (U : Int) - B * H) (c := Y * (U : Int)) (id1 _ _)
  -- P
  have p1 := tri (a := (U : Int)) (b := B) rfl
  rw [Int.natAbs_natCast] at p1
  have p2 := Nat.mul_le_mul_left H.natAbs (Nat.le_trans eP p1)
  rw [Nat.mul_left_comm, ← Int.natAbs_mul, Nat.mul_add, ← nB] at p2
  have p3 : H * P = H * (P - ((U : Int) + B)) + (H * (U : Int) + B * H) := id3 _ _ _ _
  have p4 := tri p3
  have p5 := tri (a := H * (U : Int)) (b := B * H) rfl
  rw [nHU] at p5
  -- R - V
  have v1 : (R - V) * (U : Int) = ((R - (H + Y)) * (U : Int) + (Y * (U : Int) - B * H)) - (H * (P - ((U : Int) + B)) + (V * (U : Int) - H * P)) := id4 _ _ _ _ _ _ _
  have v2 := tri' v1
  have v3 := tri (a := (R - (H + Y)) * (U : Int)) (b := Y * (U : Int) - B * H) rfl
  have v4 := tri (a := H * (P - ((U : Int) + B))) (b := V * (U : Int) - H * P) rfl
  rw [Int.natAbs_mul (R - V), Int.natAbs_natCast] at v2
  -- the tolerance
  have q0 : ((U : Int) + B.natAbs).natAbs = U + B.natAbs := id2 _ _
  rw [q0] at eQ1
  have q1 := Nat.mul_le_mul_left H.natAbs eQ1
  rw [Nat.mul_left_comm, ← Int.natAbs_natCast H.natAbs, ← Int.natAbs_mul, Int.natAbs_natCast, Nat.mul_add, ← nB] at q1
  have q2 : (H.natAbs : Int) * (Q1 - ((U : Int) + B.natAbs)) = (H.natAbs : Int) * Q1 - ((H.natAbs * U + (B * H).natAbs : Nat) : Int) := by
    rw [Int.mul_sub, Int.mul_add, nB, Int.natCast_add, Int.natCast_mul, Int.natCast_mul]
  rw [q2] at q1
  have q3 : 2 ^ 49 * (c * Q2) = Q2 * (U : Int) := by rw [← hc, ← Int.mul_assoc, Int.mul_comm]
  have q4 : (Tol * (U : Int)).natAbs = Tol.natAbs * U := by rw [Int.natAbs_mul, Int.natAbs_natCast]
  have hpos : 0 ≤ Tol * (U : Int) → 0 ≤ Tol := id5 hU
  have hfin : 2 ^ 53 * ((R - V).natAbs * U) ≤ 9 * (H.natAbs * U + (B * H).natAbs) := by
    generalize (R - V).natAbs * U = w1 at *
    generalize ((R - (H + Y)) * (U : Int)).natAbs = w3 at *
    generalize ((R - (H + Y)) * (U : Int) + (Y * (U : Int) - B * H)).natAbs = w4 at *
    generalize (H * (P - ((U : Int) + B)) + (V * (U : Int) - H * P)).natAbs = w5 at *
    generalize (Y * (U : Int) - B * H).natAbs = w6 at *
    generalize (Y * (U : Int)).natAbs = w7 at *
    generalize (H * (P - ((U : Int) + B))).natAbs = w8 at *
    generalize (V * (U : Int) - H * P).natAbs = w9 at *
    generalize (H * P).natAbs = w10 at *
    generalize (H * (U : Int) + B * H).natAbs = w11 at *
    generalize H.natAbs * U = x at *
    generalize (B * H).natAbs = y at *
    clear nR nY nB nHU p3 v1 q0 q1 q2 q3 q4 hpos eS eT eR eL eP eQ1 eQ2 eTol hc hH p1
    omega
  have htol : 5 * (H.natAbs * U + (B * H).natAbs) ≤ 8 * (2 ^ 49 * (Tol.natAbs * U)) ∧ 0 ≤ Tol := by
    rw [← q4]
    clear m1 nR nY nHU y1 p1 p2 p3 p4 p5 v1 v2 v3 v4 hfin eY eS eT eR eL eP eV eQ1 hc hH q0 q2 q4
    generalize Tol * (U : Int) = tU at *
    generalize c * Q2 = cQ at *
    generalize Q2 * (U : Int) = qU at *
    generalize (H.natAbs : Int) * Q1 = hQ at *
    generalize H.natAbs * U = x at *
    generalize (B * H).natAbs = y at *
    have : 0 ≤ tU ∧ 5 * (x + y) ≤ 8 * (2 ^ 49 * tU) := by omega
    exact ⟨by omega, hpos this.1⟩
  have : (R - V).natAbs * U ≤ Tol.natAbs * U := by
    clear m1 nR nY nHU nB y1 p1 p2 p3 p4 p5 v1 v2 v3 v4 eY eS eT eR eL eP eV eQ1 hc hH q0 q1 q2 q3 q4 hpos eQ2 eTol k12
    generalize (R - V).natAbs * U = w1 at *
    generalize Tol.natAbs * U = w2 at *
    generalize H.natAbs * U = x at *
    generalize (B * H).natAbs = y at *
    omega
  exact id6 _ _ (Nat.le_of_mul_le_mul_right this hU) htol.2
end Go.Proofs.Qxb6618457a.Fp
