/- THE WALK OF THE LAW 'FnSpanSubExactDifferenceUndoneByAdd': it returns true, whatever it is handed. -/
import Derived.Test.Qxb6617171aSpans
import Derived.Test.Qxb6617171aWords
import Derived.OpenShut
namespace Go.Proofs.Qxb6617171a.fnSpanSubExactDifferenceUndoneByAdd
open Go.RowKit

set_option maxRecDepth 100000 in
set_option maxHeartbeats 1000000 in
theorem walk_in (aN aF bN bF den sN sF B D : Int) (hd : 0 < den) (hd' : den ≤ 9223372036854775808) (ha : 0 ≤ aN) (ha' : aN ≤ 9223372036854775807) (hb : 0 ≤ bN) (hab : bN ≤ aN)
    (ha1 : 0 ≤ aF) (ha2 : aF < den) (hb1 : 0 ≤ bF) (hb2 : bF < den)
    (gu : (bN == aN) = false ∨ ((bN == aN) = true ∧ decide (aF < bF) = false))
    (HB : Hid (B = bN * den + bF)) (HD : Hid (D = sN * den + sF)) (S : Hid (IsSub aN aF bN bF den sN sF))
    (s1 : 0 ≤ sF) (s2 : sF < den) (s3 : 0 ≤ sN) (s4 : sN ≤ aN - bN) (w : World) :
    Calls Try.prog 7 #[.int .i64 aN, .int .u64 aF, .int .i64 bN, .int .u64 bF, .int .u64 den] w fun e w' => e = .returned (.bool true) ∧ Grown w w' := by
  have g0 : (den == 0) = false := by simp; omega
  have g1 : decide (9223372036854775808 < den) = false := by simp; omega
  have g2 : decide (aN < 0) = false := by simp; omega
  have g3 : decide (bN < 0) = false := by simp; omega
  have g5 : decide (den ≤ aF) = false := by simp; omega
  have g6 : decide (den ≤ bF) = false := by simp; omega
  have g7 : decide (aN < bN) = false := by simp; omega
  have i1 : decide (sN < 0) = false := by simp; omega
  have i2 : decide (den ≤ sF) = false := by simp; omega
  have X : IsAdd sN sF bN bF den aN aF := isAdd_of_sub ha1 ha2 S.out
  have HX : Hid (IsAdd sN sF bN bF den aN aF) := X
  have HV : Hid (D + B = aN * den + aF) := isAdd_val X HD.out HB.out
  clear X
  rcases gu with gu | ⟨gu, gv⟩
  all_goals
    go_enter Try.func7, Try.ntmps7
    go_wp2_with fail
    refine (zzSub_any aN aF bN bF den sN sF ha ha' hb (by omega) ha1 ha2 hb1 hb2 hd' S.out s3 _).mono ?_
    rintro e w1 ⟨rfl, k1⟩
    have P0 : At w1 w.heap.size (.int .i64 aN) (.int .u64 aF) := ((At.new w _ _ _ 30 rfl).old _).kept k1
    have P1 : At w1 (w.heap.size + 1) (.int .i64 bN) (.int .u64 bF) := (At.new _ _ _ _ 30 (by simp)).kept k1
    have K1 : Kept w w1 := (((Kept.refl _).alloc _ _).alloc _ _).trans k1
    clear k1
    obtain ⟨x4, x5, x6⟩ := id P1
    go_wp2_with fail
    refine (spanVal_any D sN sF den HD.out s3 (by omega) s1 (by omega) (by omega) (by omega) _).mono ?_
    rintro e w' ⟨rfl, rfl⟩
    go_wp2_with fail
    refine (spanVal_any B bN bF den HB.out hb (by omega) hb1 (by omega) (by omega) (by omega) _).mono ?_
    rintro e w' ⟨rfl, rfl⟩
    go_wp2_with fail
    refine (spanVal_any (D + B) aN aF den HV.out ha ha' ha1 (by omega) (by omega) (by omega) _).mono ?_
    rintro e w' ⟨rfl, rfl⟩
    go_wp2_with fail
    refine (add128_any D B rfl rfl rfl rfl _).mono ?_
    rintro e w' ⟨rfl, rfl⟩
    go_wp2_with fail
    clear x4 x5 x6
    refine (zzAdd_any sN sF bN bF den aN aF s3 hb (by omega) s1 s2 hb1 hb2 hd' HX.out _).mono ?_
    rintro e w2 ⟨rfl, k2⟩
    have P0 := (P0.old _).kept k2
    have K2 : Kept w w2 := (K1.alloc _ _).trans k2
    clear K1 k2 P1
    obtain ⟨x1, x2, x3⟩ := P0
    go_wp2_with fail
    go_ret
    exact ⟨rfl, (K2.alloc _ _).1⟩

set_option maxRecDepth 100000 in
set_option maxHeartbeats 1000000 in
theorem walk (a0 : Int) (a1 : Int) (a2 : Int) (a3 : Int) (a4 : Int) (w0 : (Lit.int .i64 a0).wf = true) (w1 : (Lit.int .u64 a1).wf = true) (w2 : (Lit.int .i64 a2).wf = true) (w3 : (Lit.int .u64 a3).wf = true) (w4 : (Lit.int .u64 a4).wf = true) (w : World) :
    Calls Try.prog 7 #[.int .i64 a0, .int .u64 a1, .int .i64 a2, .int .u64 a3, .int .u64 a4] w fun e w' => e = .returned (.bool true) ∧ Grown w w' := by
  obtain ⟨l0, u0⟩ := bounds_i64 w0
  obtain ⟨l1, u1⟩ := bounds_u64 w1
  obtain ⟨l2, u2⟩ := bounds_i64 w2
  obtain ⟨l3, u3⟩ := bounds_u64 w3
  obtain ⟨l4, u4⟩ := bounds_u64 w4
  clear w0 w1 w2 w3 w4
  by_cases d0 : a4 = 0
  · have g0 : (a4 == 0) = true := by simp [d0]
    clear d0
    go_enter Try.func7, Try.ntmps7
    go_wp2_with fail
    go_ret
    exact ⟨rfl, Grown.refl _⟩
  have g0 : (a4 == 0) = false := by simp [d0]
  have d0' : 0 < a4 := by omega
  clear d0
  by_cases d1 : 9223372036854775808 < a4
  · have d1' : decide (9223372036854775808 < a4) = true := by simp [d1]
    go_enter Try.func7, Try.ntmps7
    go_wp2_with fail
    go_ret
    exact ⟨rfl, Grown.refl _⟩
  have d1' : decide (9223372036854775808 < a4) = false := by simp; omega
  by_cases d2 : a0 < 0
  · have d2' : decide (a0 < 0) = true := by simp [d2]
    go_enter Try.func7, Try.ntmps7
    go_wp2_with fail
    go_ret
    exact ⟨rfl, Grown.refl _⟩
  have d2' : decide (a0 < 0) = false := by simp; omega
  by_cases d3 : a2 < 0
  · have d3' : decide (a2 < 0) = true := by simp [d3]
    go_enter Try.func7, Try.ntmps7
    go_wp2_with fail
    go_ret
    exact ⟨rfl, Grown.refl _⟩
  have d3' : decide (a2 < 0) = false := by simp; omega
  by_cases d4 : a4 ≤ a1
  · have d4' : decide (a4 ≤ a1) = true := by simp [d4]
    go_enter Try.func7, Try.ntmps7
    go_wp2_with fail
    go_ret
    exact ⟨rfl, Grown.refl _⟩
  have d4' : decide (a4 ≤ a1) = false := by simp; omega
  by_cases d5 : a4 ≤ a3
  · have d5' : decide (a4 ≤ a3) = true := by simp [d5]
    go_enter Try.func7, Try.ntmps7
    go_wp2_with fail
    go_ret
    exact ⟨rfl, Grown.refl _⟩
  have d5' : decide (a4 ≤ a3) = false := by simp; omega
  by_cases d6 : a0 < a2
  · have d6' : decide (a0 < a2) = true := by simp [d6]
    go_enter Try.func7, Try.ntmps7
    go_wp2_with fail
    go_ret
    exact ⟨rfl, Grown.refl _⟩
  have d6' : decide (a0 < a2) = false := by simp; omega
  obtain ⟨sN, sF, S, s1, s2⟩ := isSub_ex a0 a1 a2 a3 a4 l1 (by omega) l3 (by omega)
  by_cases e : a2 = a0
  · have e' : (a2 == a0) = true := by simp [e]
    by_cases c : a1 < a3
    · have c' : decide (a1 < a3) = true := by simp [c]
      clear e S s1 s2
      go_enter Try.func7, Try.ntmps7
      go_wp2_with fail
      go_ret
      exact ⟨rfl, Grown.refl _⟩
    · have n := S
      unfold IsSub at n
      exact walk_in a0 a1 a2 a3 a4 sN sF _ _ d0' (by omega) (by omega) u0 (by omega) (by omega) l1 (by omega) l3 (by omega) (.inr ⟨e', by simp; omega⟩) rfl rfl S s1 s2 (by omega) (by omega) w
  · have n := S
    unfold IsSub at n
    exact walk_in a0 a1 a2 a3 a4 sN sF _ _ d0' (by omega) (by omega) u0 (by omega) (by omega) l1 (by omega) l3 (by omega) (.inl (by simp; omega)) rfl rfl S s1 s2 (by omega) (by omega) w
end Go.Proofs.Qxb6617171a.fnSpanSubExactDifferenceUndoneByAdd
