/- THE WALK OF THE LAW 'FnSpanSubInStepsEqualsSubOfSum': it returns true, whatever it is handed. -/
import Derived.Test.Qxb6617171aSpans
import Derived.Test.Qxb6617171aWords
import Derived.OpenShut
namespace Go.Proofs.Qxb6617171a.fnSpanSubInStepsEqualsSubOfSum
open Go.RowKit

set_option maxRecDepth 100000 in
set_option maxHeartbeats 1000000 in
theorem walk_no (aN aF bN bF cN cF den A B C : Int) (hd : 0 < den) (hd' : den ≤ 9223372036854775808) (ha : 0 ≤ aN) (ha' : aN ≤ 9223372036854775807) (hb : 0 ≤ bN) (hb' : bN ≤ 9223372036854775807) (hc : 0 ≤ cN) (hc' : cN ≤ 9223372036854775807)
    (ha1 : 0 ≤ aF) (ha2 : aF < den) (hb1 : 0 ≤ bF) (hb2 : bF < den) (hc1 : 0 ≤ cF) (hc2 : cF < den)
    (HA : Hid (A = aN * den + aF)) (HB : Hid (B = bN * den + bF)) (HC : Hid (C = cN * den + cF))
    (no : decide (B + C ≤ A) = false) (w : World) :
    Calls Try.prog 8 #[.int .i64 aN, .int .u64 aF, .int .i64 bN, .int .u64 bF, .int .i64 cN, .int .u64 cF, .int .u64 den] w fun e w' => e = .returned (.bool true) ∧ Grown w w' := by
  have g0 : (den == 0) = false := by simp; omega
  have g1 : decide (9223372036854775808 < den) = false := by simp; omega
  have g2 : decide (aN < 0) = false := by simp; omega
  have g3 : decide (bN < 0) = false := by simp; omega
  have g4 : decide (cN < 0) = false := by simp; omega
  have g5 : decide (den ≤ aF) = false := by simp; omega
  have g6 : decide (den ≤ bF) = false := by simp; omega
  have g7 : decide (den ≤ cF) = false := by simp; omega
  have a0 := val_nonneg aN aF den ha ha1 (by omega)
  have b0 := val_nonneg bN bF den hb hb1 (by omega)
  have c0 := val_nonneg cN cF den hc hc1 (by omega)
  have a3 := val_bd aN aF den ha' ha2 (by omega) hd'
  have b3 := val_bd bN bF den hb' hb2 (by omega) hd'
  have c3 := val_bd cN cF den hc' hc2 (by omega) hd'
  rw [← HA.out] at a0 a3
  rw [← HB.out] at b0 b3
  rw [← HC.out] at c0 c3
  have E0 : Hid (0 ≤ A) := a0
  have E1 : Hid (A < 340282366920938463463374607431768211456) := by show A < 340282366920938463463374607431768211456; omega
  have E2 : Hid (0 ≤ B + C) := by show 0 ≤ B + C; omega
  have E3 : Hid (B + C < 340282366920938463463374607431768211456) := by show B + C < 340282366920938463463374607431768211456; omega
  clear a0 b0 c0 a3 b3 c3
  go_enter Try.func8, Try.ntmps8
  go_wp2_with fail
  refine (spanVal_any A aN aF den HA.out ha ha' ha1 (by omega) (by omega) (by omega) _).mono ?_
  rintro e w' ⟨rfl, rfl⟩
  go_wp2_with fail
  refine (spanVal_any B bN bF den HB.out hb hb' hb1 (by omega) (by omega) (by omega) _).mono ?_
  rintro e w' ⟨rfl, rfl⟩
  go_wp2_with fail
  refine (spanVal_any C cN cF den HC.out hc hc' hc1 (by omega) (by omega) (by omega) _).mono ?_
  rintro e w' ⟨rfl, rfl⟩
  go_wp2_with fail
  refine (add128_any B C rfl rfl rfl rfl _).mono ?_
  rintro e w' ⟨rfl, rfl⟩
  go_wp2_with fail
  refine (le128_any (B + C) A E2.out E3.out E0.out E1.out _).mono ?_
  rintro e w' ⟨rfl, rfl⟩
  go_wp2_with fail
  go_ret
  exact ⟨rfl, Grown.refl _⟩

set_option maxRecDepth 100000 in
set_option maxHeartbeats 1000000 in
theorem walk_yes (aN aF bN bF cN cF den A B C : Int) (hd : 0 < den) (hd' : den ≤ 9223372036854775808) (ha : 0 ≤ aN) (ha' : aN ≤ 9223372036854775807) (hb : 0 ≤ bN) (hb' : bN ≤ 9223372036854775807) (hc : 0 ≤ cN) (hc' : cN ≤ 9223372036854775807)
    (ha1 : 0 ≤ aF) (ha2 : aF < den) (hb1 : 0 ≤ bF) (hb2 : bF < den) (hc1 : 0 ≤ cF) (hc2 : cF < den)
    (HA : Hid (A = aN * den + aF)) (HB : Hid (B = bN * den + bF)) (HC : Hid (C = cN * den + cF))
    (yes : decide (B + C ≤ A) = true) (xN xF lN lF tN tF V : Int) (HV : Hid (V = lN * den + lF)) (HS : Hid (V + (B + C) = A))
    (X : Hid (IsSub aN aF bN bF den xN xF)) (L : Hid (IsSub xN xF cN cF den lN lF)) (T : Hid (IsAdd bN bF cN cF den tN tF))
    (x1 : 0 ≤ xF) (x2 : xF < den) (x3 : 0 ≤ xN) (x4 : xN ≤ 9223372036854775807)
    (l1 : 0 ≤ lF) (l2 : lF < den) (l3 : 0 ≤ lN) (l4 : lN ≤ 9223372036854775807)
    (t1 : 0 ≤ tF) (t2 : tF < den) (t3 : 0 ≤ tN) (t4 : tN ≤ 9223372036854775807) (w : World) :
    Calls Try.prog 8 #[.int .i64 aN, .int .u64 aF, .int .i64 bN, .int .u64 bF, .int .i64 cN, .int .u64 cF, .int .u64 den] w fun e w' => e = .returned (.bool true) ∧ Grown w w' := by
  have g0 : (den == 0) = false := by simp; omega
  have g1 : decide (9223372036854775808 < den) = false := by simp; omega
  have g2 : decide (aN < 0) = false := by simp; omega
  have g3 : decide (bN < 0) = false := by simp; omega
  have g4 : decide (cN < 0) = false := by simp; omega
  have g5 : decide (den ≤ aF) = false := by simp; omega
  have g6 : decide (den ≤ bF) = false := by simp; omega
  have g7 : decide (den ≤ cF) = false := by simp; omega
  have a0 := val_nonneg aN aF den ha ha1 (by omega)
  have b0 := val_nonneg bN bF den hb hb1 (by omega)
  have c0 := val_nonneg cN cF den hc hc1 (by omega)
  have a3 := val_bd aN aF den ha' ha2 (by omega) hd'
  have b3 := val_bd bN bF den hb' hb2 (by omega) hd'
  have c3 := val_bd cN cF den hc' hc2 (by omega) hd'
  rw [← HA.out] at a0 a3
  rw [← HB.out] at b0 b3
  rw [← HC.out] at c0 c3
  have E0 : Hid (0 ≤ A) := a0
  have E1 : Hid (A < 340282366920938463463374607431768211456) := by show A < 340282366920938463463374607431768211456; omega
  have E2 : Hid (0 ≤ B + C) := by show 0 ≤ B + C; omega
  have E3 : Hid (B + C < 340282366920938463463374607431768211456) := by show B + C < 340282366920938463463374607431768211456; omega
  clear a0 b0 c0 a3 b3 c3
  go_enter Try.func8, Try.ntmps8
  go_wp2_with fail
  refine (spanVal_any A aN aF den HA.out ha ha' ha1 (by omega) (by omega) (by omega) _).mono ?_
  rintro e w ⟨rfl, rfl⟩
  go_wp2_with fail
  refine (spanVal_any B bN bF den HB.out hb hb' hb1 (by omega) (by omega) (by omega) _).mono ?_
  rintro e w ⟨rfl, rfl⟩
  go_wp2_with fail
  refine (spanVal_any C cN cF den HC.out hc hc' hc1 (by omega) (by omega) (by omega) _).mono ?_
  rintro e w ⟨rfl, rfl⟩
  go_wp2_with fail
  refine (add128_any B C rfl rfl rfl rfl _).mono ?_
  rintro e w ⟨rfl, rfl⟩
  go_wp2_with fail
  refine (le128_any (B + C) A E2.out E3.out E0.out E1.out _).mono ?_
  rintro e w ⟨rfl, rfl⟩
  go_wp2_with fail
  refine (zzSub_any aN aF bN bF den xN xF ha ha' hb hb' ha1 ha2 hb1 hb2 hd' X.out x3 _).mono ?_
  rintro e w1 ⟨rfl, k1⟩
  have P0 : At w1 w.heap.size (.int .i64 aN) (.int .u64 aF) := (((At.new w _ _ _ 30 rfl).old _).old _).kept k1
  have P1 : At w1 (w.heap.size + 1) (.int .i64 bN) (.int .u64 bF) := ((At.new _ _ _ _ 30 (by simp)).old _).kept k1
  have P2 : At w1 (w.heap.size + 1 + 1) (.int .i64 cN) (.int .u64 cF) := (At.new _ _ _ _ 30 (by simp)).kept k1
  have K1 : Kept w w1 := ((((Kept.refl _).alloc _ _).alloc _ _).alloc _ _).trans k1
  clear k1
  obtain ⟨y1, y2, y3⟩ := id P2
  go_wp2_with fail
  clear y1 y2 y3
  refine (zzSub_any xN xF cN cF den lN lF x3 x4 hc hc' x1 x2 hc1 hc2 hd' L.out l3 _).mono ?_
  rintro e w2 ⟨rfl, k2⟩
  have P0 := (P0.old _).kept k2
  have P1 := (P1.old _).kept k2
  have P2 := (P2.old _).kept k2
  have K2 : Kept w w2 := (K1.alloc _ _).trans k2
  clear K1 k2
  obtain ⟨y1, y2, y3⟩ := id P1
  obtain ⟨y4, y5, y6⟩ := id P2
  go_wp2_with fail
  clear y1 y2 y3 y4 y5 y6
  refine (zzAdd_any bN bF cN cF den tN tF hb hc t4 hb1 hb2 hc1 hc2 hd' T.out _).mono ?_
  rintro e w3 ⟨rfl, k3⟩
  have P0 := (P0.old _).kept k3
  have P3 : At w3 w2.heap.size (.int .i64 lN) (.int .u64 lF) := (At.new w2 _ _ _ 30 rfl).kept k3
  have K3 : Kept w w3 := (K2.alloc _ _).trans k3
  clear K2 k3 P1 P2
  obtain ⟨y1, y2, y3⟩ := id P0
  go_wp2_with fail
  clear y1 y2 y3
  refine (zzSub_any aN aF tN tF den lN lF ha ha' t3 t4 ha1 ha2 t1 t2 hd' (isSub_steps ha1 ha2 hb1 hb2 hc1 hc2 X.out L.out T.out) l3 _).mono ?_
  rintro e w4 ⟨rfl, k4⟩
  have P3 := (P3.old _).kept k4
  have K4 : Kept w w4 := (K3.alloc _ _).trans k4
  clear K3 k4 P0
  have i1 : decide (lN < 0) = false := by simp; omega
  have i2 : decide (den ≤ lF) = false := by simp; omega
  obtain ⟨y1, y2, y3⟩ := P3
  go_wp2_with fail
  refine (spanVal_any V lN lF den HV.out l3 l4 l1 (by omega) (by omega) (by omega) _).mono ?_
  rintro e w' ⟨rfl, rfl⟩
  go_wp2_with fail
  refine (add128_sum V (B + C) A HS.out rfl rfl rfl rfl _).mono ?_
  rintro e w' ⟨rfl, rfl⟩
  go_wp2_with fail
  go_ret
  exact ⟨rfl, (K4.alloc _ _).1⟩

set_option maxRecDepth 100000 in
set_option maxHeartbeats 1000000 in
theorem walk (a0 : Int) (a1 : Int) (a2 : Int) (a3 : Int) (a4 : Int) (a5 : Int) (a6 : Int) (w0 : (Lit.int .i64 a0).wf = true) (w1 : (Lit.int .u64 a1).wf = true) (w2 : (Lit.int .i64 a2).wf = true) (w3 : (Lit.int .u64 a3).wf = true) (w4 : (Lit.int .i64 a4).wf = true) (w5 : (Lit.int .u64 a5).wf = true) (w6 : (Lit.int .u64 a6).wf = true) (w : World) :
    Calls Try.prog 8 #[.int .i64 a0, .int .u64 a1, .int .i64 a2, .int .u64 a3, .int .i64 a4, .int .u64 a5, .int .u64 a6] w fun e w' => e = .returned (.bool true) ∧ Grown w w' := by
  obtain ⟨l0, u0⟩ := bounds_i64 w0
  obtain ⟨l1, u1⟩ := bounds_u64 w1
  obtain ⟨l2, u2⟩ := bounds_i64 w2
  obtain ⟨l3, u3⟩ := bounds_u64 w3
  obtain ⟨l4, u4⟩ := bounds_i64 w4
  obtain ⟨l5, u5⟩ := bounds_u64 w5
  obtain ⟨l6, u6⟩ := bounds_u64 w6
  clear w0 w1 w2 w3 w4 w5 w6
  by_cases d0 : a6 = 0
  · have g0 : (a6 == 0) = true := by simp [d0]
    clear d0
    go_enter Try.func8, Try.ntmps8
    go_wp2_with fail
    go_ret
    exact ⟨rfl, Grown.refl _⟩
  have g0 : (a6 == 0) = false := by simp [d0]
  have d0' : 0 < a6 := by omega
  clear d0
  by_cases d1 : 9223372036854775808 < a6
  · have d1' : decide (9223372036854775808 < a6) = true := by simp [d1]
    go_enter Try.func8, Try.ntmps8
    go_wp2_with fail
    go_ret
    exact ⟨rfl, Grown.refl _⟩
  have d1' : decide (9223372036854775808 < a6) = false := by simp; omega
  by_cases d2 : a0 < 0
  · have d2' : decide (a0 < 0) = true := by simp [d2]
    go_enter Try.func8, Try.ntmps8
    go_wp2_with fail
    go_ret
    exact ⟨rfl, Grown.refl _⟩
  have d2' : decide (a0 < 0) = false := by simp; omega
  by_cases d3 : a2 < 0
  · have d3' : decide (a2 < 0) = true := by simp [d3]
    go_enter Try.func8, Try.ntmps8
    go_wp2_with fail
    go_ret
    exact ⟨rfl, Grown.refl _⟩
  have d3' : decide (a2 < 0) = false := by simp; omega
  by_cases d4 : a4 < 0
  · have d4' : decide (a4 < 0) = true := by simp [d4]
    go_enter Try.func8, Try.ntmps8
    go_wp2_with fail
    go_ret
    exact ⟨rfl, Grown.refl _⟩
  have d4' : decide (a4 < 0) = false := by simp; omega
  by_cases d5 : a6 ≤ a1
  · have d5' : decide (a6 ≤ a1) = true := by simp [d5]
    go_enter Try.func8, Try.ntmps8
    go_wp2_with fail
    go_ret
    exact ⟨rfl, Grown.refl _⟩
  have d5' : decide (a6 ≤ a1) = false := by simp; omega
  by_cases d6 : a6 ≤ a3
  · have d6' : decide (a6 ≤ a3) = true := by simp [d6]
    go_enter Try.func8, Try.ntmps8
    go_wp2_with fail
    go_ret
    exact ⟨rfl, Grown.refl _⟩
  have d6' : decide (a6 ≤ a3) = false := by simp; omega
  by_cases d7 : a6 ≤ a5
  · have d7' : decide (a6 ≤ a5) = true := by simp [d7]
    go_enter Try.func8, Try.ntmps8
    go_wp2_with fail
    go_ret
    exact ⟨rfl, Grown.refl _⟩
  have d7' : decide (a6 ≤ a5) = false := by simp; omega
  by_cases c : (a2 * a6 + a3) + (a4 * a6 + a5) ≤ a0 * a6 + a1
  · obtain ⟨xN, xF, X, x1, x2⟩ := isSub_ex a0 a1 a2 a3 a6 l1 (by omega) l3 (by omega)
    obtain ⟨lN, lF, L, y1, y2⟩ := isSub_ex xN xF a4 a5 a6 x1 x2 l5 (by omega)
    obtain ⟨tN, tF, T, t1, t2, t3, t4⟩ := isAdd_ex a2 a3 a4 a5 a6 l3 (by omega) l5 (by omega)
    have vx := isAdd_val (isAdd_of_sub l1 (by omega) X) rfl rfl
    have vl := isAdd_val (isAdd_of_sub x1 x2 L) rfl rfl
    have vt := isAdd_val T rfl rfl
    have v4 := val_nonneg a4 a5 a6 (by omega) l5 (by omega)
    have x3 : 0 ≤ xN := val_le (aF := 0) (den := a6) (by omega) (by omega) x2 (by rw [Int.zero_mul]; omega)
    have z3 : 0 ≤ lN := val_le (aF := 0) (den := a6) (by omega) (by omega) y2 (by rw [Int.zero_mul]; omega)
    have z4 : tN ≤ a0 := val_le (bF := a1) (den := a6) t1 t2 (by omega) (by omega)
    have nx := X
    unfold IsSub at nx
    have nl := L
    unfold IsSub at nl
    exact walk_yes a0 a1 a2 a3 a4 a5 a6 _ _ _ d0' (by omega) (by omega) u0 (by omega) u2 (by omega) u4 l1 (by omega) l3 (by omega) l5 (by omega) rfl rfl rfl (by simpa using c)
      xN xF lN lF tN tF _ rfl (by show lN * a6 + lF + (a2 * a6 + a3 + (a4 * a6 + a5)) = a0 * a6 + a1; omega) X L T x1 x2 x3 (by omega) y1 y2 z3 (by omega) t1 t2 (by omega) (by omega) w
  · exact walk_no a0 a1 a2 a3 a4 a5 a6 _ _ _ d0' (by omega) (by omega) u0 (by omega) u2 (by omega) u4 l1 (by omega) l3 (by omega) l5 (by omega) rfl rfl rfl (by simpa using c) w
end Go.Proofs.Qxb6617171a.fnSpanSubInStepsEqualsSubOfSum
