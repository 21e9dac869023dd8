/- THE WALK OF THE LAW 'FnSpanAddCommutesAndAssociates': it returns true, whatever it is handed. -/
import Derived.Test.Qxb6617171aSpans
import Derived.Test.Qxb6617171aWords
import Derived.OpenShut
namespace Go.Proofs.Qxb6617171a.fnSpanAddCommutesAndAssociates
open Go.RowKit

set_option maxRecDepth 100000 in
set_option maxHeartbeats 1000000 in
theorem walk_in (aN aF bN bF cN cF den sN sF tN tF lN lF A B C : Int) (hd : 0 < den) (hd' : den ≤ 9223372036854775808) (ha : 0 ≤ aN) (hb : 0 ≤ bN) (hc : 0 ≤ cN) (hsum : aN + bN + cN ≤ 9223372036854775805)
    (ha1 : 0 ≤ aF) (ha2 : aF < den) (hb1 : 0 ≤ bF) (hb2 : bF < den) (hc1 : 0 ≤ cF) (hc2 : cF < den)
    (HA : Hid (A = aN * den + aF)) (HB : Hid (B = bN * den + bF)) (HC : Hid (C = cN * den + cF))
    (S : Hid (IsAdd aN aF bN bF den sN sF)) (T : Hid (IsAdd bN bF cN cF den tN tF)) (L : Hid (IsAdd sN sF cN cF den lN lF))
    (s1 : 0 ≤ sF) (s2 : sF < den) (s3 : aN + bN ≤ sN) (s4 : sN ≤ aN + bN + 1)
    (t1 : 0 ≤ tF) (t2 : tF < den) (t3 : bN + cN ≤ tN) (t4 : tN ≤ bN + cN + 1)
    (l1 : 0 ≤ lF) (l2 : lF < den) (l3 : sN + cN ≤ lN) (l4 : lN ≤ sN + cN + 1) (w : World) :
    Calls Try.prog 6 #[.int .i64 aN, .int .u64 aF, .int .i64 bN, .int .u64 bF, .int .i64 cN, .int .u64 cF, .int .u64 den] w fun e w' => e = .returned (.bool true) ∧ Grown w w' := by
  have g0 : (den == 0) = false := by simp; omega
  have g1 : decide (9223372036854775808 < den) = false := by simp; omega
  have g2 : decide (aN < 0) = false := by simp; omega
  have g3 : decide (bN < 0) = false := by simp; omega
  have g4 : decide (cN < 0) = false := by simp; omega
  have g5 : decide (den ≤ aF) = false := by simp; omega
  have g6 : decide (den ≤ bF) = false := by simp; omega
  have g7 : decide (den ≤ cF) = false := by simp; omega
  go_enter Try.func6, Try.ntmps6
  go_wp2_with fail
  refine (zzAdd_any aN aF bN bF den sN sF ha hb (by omega) ha1 ha2 hb1 hb2 hd' S.out _).mono ?_
  rintro e w1 ⟨rfl, k1⟩
  have P0 : At w1 w.heap.size (.int .i64 aN) (.int .u64 aF) := (((At.new w _ _ _ 30 rfl).old _).old _).kept k1
  have P1 : At w1 (w.heap.size + 1) (.int .i64 bN) (.int .u64 bF) := ((At.new _ _ _ _ 30 (by simp)).old _).kept k1
  have P2 : At w1 (w.heap.size + 1 + 1) (.int .i64 cN) (.int .u64 cF) := (At.new _ _ _ _ 30 (by simp)).kept k1
  have K1 : Kept w w1 := ((((Kept.refl _).alloc _ _).alloc _ _).alloc _ _).trans k1
  clear k1
  obtain ⟨x1, x2, x3⟩ := id P0
  obtain ⟨x4, x5, x6⟩ := id P1
  go_wp2_with fail
  clear x1 x2 x3 x4 x5 x6
  refine (zzAdd_any bN bF aN aF den sN sF hb ha (by omega) hb1 hb2 ha1 ha2 hd' (isAdd_comm S.out) _).mono ?_
  rintro e w2 ⟨rfl, k2⟩
  have P0 := (P0.old _).kept k2
  have P1 := (P1.old _).kept k2
  have P2 := (P2.old _).kept k2
  have P3 : At w2 w1.heap.size (.int .i64 sN) (.int .u64 sF) := (At.new w1 _ _ _ 30 rfl).kept k2
  have K2 : Kept w w2 := (K1.alloc _ _).trans k2
  clear K1 k2
  obtain ⟨x1, x2, x3⟩ := id P2
  obtain ⟨x4, x5, x6⟩ := id P3
  go_wp2_with fail
  clear x1 x2 x3 x4 x5 x6
  refine (zzAdd_any sN sF cN cF den lN lF (by omega) hc (by omega) s1 s2 hc1 hc2 hd' L.out _).mono ?_
  rintro e w3 ⟨rfl, k3⟩
  have P0 := (P0.old _).kept k3
  have P1 := (P1.old _).kept k3
  have P2 := (P2.old _).kept k3
  have P3 := (P3.old _).kept k3
  have P4 : At w3 w2.heap.size (.int .i64 sN) (.int .u64 sF) := (At.new w2 _ _ _ 30 rfl).kept k3
  have K3 : Kept w w3 := (K2.alloc _ _).trans k3
  clear K2 k3
  obtain ⟨x1, x2, x3⟩ := id P1
  obtain ⟨x4, x5, x6⟩ := id P2
  go_wp2_with fail
  clear x1 x2 x3 x4 x5 x6
  refine (zzAdd_any bN bF cN cF den tN tF hb hc (by omega) hb1 hb2 hc1 hc2 hd' T.out _).mono ?_
  rintro e w4 ⟨rfl, k4⟩
  have P0 := (P0.old _).kept k4
  have P3 := (P3.old _).kept k4
  have P4 := (P4.old _).kept k4
  have P5 : At w4 w3.heap.size (.int .i64 lN) (.int .u64 lF) := (At.new w3 _ _ _ 30 rfl).kept k4
  have K4 : Kept w w4 := (K3.alloc _ _).trans k4
  clear K3 k4 P1 P2
  obtain ⟨x1, x2, x3⟩ := id P0
  go_wp2_with fail
  clear x1 x2 x3
  refine (zzAdd_any aN aF tN tF den lN lF ha (by omega) (by omega) ha1 ha2 t1 t2 hd' (isAdd_assoc ha1 ha2 hb1 hb2 hc1 hc2 S.out L.out T.out) _).mono ?_
  rintro e w5 ⟨rfl, k5⟩
  have P3 := (P3.old _).kept k5
  have P4 := (P4.old _).kept k5
  have P5 := (P5.old _).kept k5
  have K5 : Kept w w5 := (K4.alloc _ _).trans k5
  clear K4 k5 P0
  have i1 : decide (lN < 0) = false := by simp; omega
  have i2 : decide (den ≤ lF) = false := by simp; omega
  obtain ⟨x1, x2, x3⟩ := P3
  obtain ⟨x4, x5, x6⟩ := P4
  obtain ⟨x7, x8, x9⟩ := P5
  go_wp2_with fail
  refine (spanVal_any A aN aF den HA.out ha (by omega) ha1 (by omega) (by omega) (by omega) _).mono ?_
  rintro e w' ⟨rfl, rfl⟩
  go_wp2_with fail
  refine (spanVal_any B bN bF den HB.out hb (by omega) hb1 (by omega) (by omega) (by omega) _).mono ?_
  rintro e w' ⟨rfl, rfl⟩
  go_wp2_with fail
  refine (spanVal_any C cN cF den HC.out hc (by omega) hc1 (by omega) (by omega) (by omega) _).mono ?_
  rintro e w' ⟨rfl, rfl⟩
  go_wp2_with fail
  refine (add128_any A B rfl rfl rfl rfl _).mono ?_
  rintro e w' ⟨rfl, rfl⟩
  go_wp2_with fail
  refine (add128_any (A + B) C rfl rfl rfl rfl _).mono ?_
  rintro e w' ⟨rfl, rfl⟩
  go_wp2_with fail
  refine (spanVal_any (A + B + C) lN lF den (isAdd_val L.out (isAdd_val S.out HA.out HB.out) HC.out) (by omega) (by omega) l1 (by omega) (by omega) (by omega) _).mono ?_
  rintro e w' ⟨rfl, rfl⟩
  go_wp2_with fail
  go_ret
  exact ⟨rfl, (K5.alloc _ _).1⟩

set_option maxRecDepth 100000 in
set_option maxHeartbeats 1000000 in
theorem walk (a0 : Int) (a1 : Int) (a2 : Int) (a3 : Int) (a4 : Int) (a5 : Int) (a6 : Int) (w0 : (Lit.int .i64 a0).wf = true) (w1 : (Lit.int .u64 a1).wf = true) (w2 : (Lit.int .i64 a2).wf = true) (w3 : (Lit.int .u64 a3).wf = true) (w4 : (Lit.int .i64 a4).wf = true) (w5 : (Lit.int .u64 a5).wf = true) (w6 : (Lit.int .u64 a6).wf = true) (w : World) :
    Calls Try.prog 6 #[.int .i64 a0, .int .u64 a1, .int .i64 a2, .int .u64 a3, .int .i64 a4, .int .u64 a5, .int .u64 a6] w fun e w' => e = .returned (.bool true) ∧ Grown w w' := by
  obtain ⟨l0, u0⟩ := bounds_i64 w0
  obtain ⟨l1, u1⟩ := bounds_u64 w1
  obtain ⟨l2, u2⟩ := bounds_i64 w2
  obtain ⟨l3, u3⟩ := bounds_u64 w3
  obtain ⟨l4, u4⟩ := bounds_i64 w4
  obtain ⟨l5, u5⟩ := bounds_u64 w5
  obtain ⟨l6, u6⟩ := bounds_u64 w6
  clear w0 w1 w2 w3 w4 w5 w6
  by_cases d0 : a6 = 0
  · have g0 : (a6 == 0) = true := by simp [d0]
    clear d0
    go_enter Try.func6, Try.ntmps6
    go_wp2_with fail
    go_ret
    exact ⟨rfl, Grown.refl _⟩
  have g0 : (a6 == 0) = false := by simp [d0]
  have d0' : 0 < a6 := by omega
  clear d0
  by_cases d1 : 9223372036854775808 < a6
  · have d1' : decide (9223372036854775808 < a6) = true := by simp [d1]
    go_enter Try.func6, Try.ntmps6
    go_wp2_with fail
    go_ret
    exact ⟨rfl, Grown.refl _⟩
  have d1' : decide (9223372036854775808 < a6) = false := by simp; omega
  by_cases d2 : a0 < 0
  · have d2' : decide (a0 < 0) = true := by simp [d2]
    go_enter Try.func6, Try.ntmps6
    go_wp2_with fail
    go_ret
    exact ⟨rfl, Grown.refl _⟩
  have d2' : decide (a0 < 0) = false := by simp; omega
  by_cases d3 : a2 < 0
  · have d3' : decide (a2 < 0) = true := by simp [d3]
    go_enter Try.func6, Try.ntmps6
    go_wp2_with fail
    go_ret
    exact ⟨rfl, Grown.refl _⟩
  have d3' : decide (a2 < 0) = false := by simp; omega
  by_cases d4 : a4 < 0
  · have d4' : decide (a4 < 0) = true := by simp [d4]
    go_enter Try.func6, Try.ntmps6
    go_wp2_with fail
    go_ret
    exact ⟨rfl, Grown.refl _⟩
  have d4' : decide (a4 < 0) = false := by simp; omega
  by_cases d5 : a6 ≤ a1
  · have d5' : decide (a6 ≤ a1) = true := by simp [d5]
    go_enter Try.func6, Try.ntmps6
    go_wp2_with fail
    go_ret
    exact ⟨rfl, Grown.refl _⟩
  have d5' : decide (a6 ≤ a1) = false := by simp; omega
  by_cases d6 : a6 ≤ a3
  · have d6' : decide (a6 ≤ a3) = true := by simp [d6]
    go_enter Try.func6, Try.ntmps6
    go_wp2_with fail
    go_ret
    exact ⟨rfl, Grown.refl _⟩
  have d6' : decide (a6 ≤ a3) = false := by simp; omega
  by_cases d7 : a6 ≤ a5
  · have d7' : decide (a6 ≤ a5) = true := by simp [d7]
    go_enter Try.func6, Try.ntmps6
    go_wp2_with fail
    go_ret
    exact ⟨rfl, Grown.refl _⟩
  have d7' : decide (a6 ≤ a5) = false := by simp; omega
  by_cases d8 : 9223372036854775805 < a0
  · have d8' : decide (9223372036854775805 < a0) = true := by simp [d8]
    go_enter Try.func6, Try.ntmps6
    go_wp2_with fail
    go_ret
    exact ⟨rfl, Grown.refl _⟩
  have d8' : decide (9223372036854775805 < a0) = false := by simp; omega
  by_cases d9 : 9223372036854775805 - a0 < a2
  · have d9' : decide (9223372036854775805 - a0 < a2) = true := by simp [d9]
    go_enter Try.func6, Try.ntmps6
    go_wp2_with fail
    go_ret
    exact ⟨rfl, Grown.refl _⟩
  have d9' : decide (9223372036854775805 - a0 < a2) = false := by simp; omega
  by_cases d10 : 9223372036854775805 - a0 - a2 < a4
  · have d10' : decide (9223372036854775805 - a0 - a2 < a4) = true := by simp [d10]
    go_enter Try.func6, Try.ntmps6
    go_wp2_with fail
    go_ret
    exact ⟨rfl, Grown.refl _⟩
  have d10' : decide (9223372036854775805 - a0 - a2 < a4) = false := by simp; omega
  obtain ⟨sN, sF, S, s1, s2, s3, s4⟩ := isAdd_ex a0 a1 a2 a3 a6 l1 (by omega) l3 (by omega)
  obtain ⟨tN, tF, T, t1, t2, t3, t4⟩ := isAdd_ex a2 a3 a4 a5 a6 l3 (by omega) l5 (by omega)
  obtain ⟨lN, lF, L, e1, e2, e3, e4⟩ := isAdd_ex sN sF a4 a5 a6 s1 s2 l5 (by omega)
  exact walk_in a0 a1 a2 a3 a4 a5 a6 sN sF tN tF lN lF _ _ _ d0' (by omega) (by omega) (by omega) (by omega) (by omega) l1 (by omega) l3 (by omega) l5 (by omega) rfl rfl rfl S T L s1 s2 s3 s4 t1 t2 t3 t4 e1 e2 e3 e4 w
end Go.Proofs.Qxb6617171a.fnSpanAddCommutesAndAssociates
