/- THE WALK OF THE LAW 'FnWideOfDenotesItsArgumentAndNegationFlipsTheSignAlone': it returns true, whatever it is handed. -/
import Derived.Test.Qxb6618541aWalks
import Derived.OpenShut
namespace Go.Proofs.Qxb6618541a.fnWideOfDenotesItsArgumentAndNegationFlipsTheSignAlone
open Go.RowKit

theorem low_neg (a : Int) (l : -9223372036854775808 ≤ a) (h : a < 0) : IntKind.u64.wrap a = 18446744073709551616 - -a := by rw [IntKind.wrap_u64]; omega
theorem trans {a b c : World} (h : Grown a b) (h' : Grown b c) : Grown a c :=
  ⟨World.keptBut_trans h.1 h'.1, fun x => (h'.2.1 x).trans (h.2.1 x), Nat.le_trans h.2.2 h'.2.2⟩

theorem walk (a0 : Int) (w0 : (Lit.int .i64 a0).wf = true) (w : World) :
    Calls Try.prog 3 #[.int .i64 a0] w fun e w' => e = .returned (.bool true) ∧ Grown w w' := by
  obtain ⟨l0, u0⟩ := bounds_i64 w0
  clear w0
  by_cases c : a0 < 0
  · have g1 : (-a0 == 0) = false := by simp; omega
    by_cases d : a0 = -9223372036854775808
    · have g2 : (a0 != -9223372036854775808) = false := by simp [d]
      clear d
      go_enter Try.func3, Try.ntmps3
      go_wp2_with fail
      refine (wide_any a0 (-a0) true l0 u0 (.inl ⟨c, rfl, rfl⟩) _).mono ?_
      rintro e w1 ⟨rfl, k1⟩
      go_wp2_with fail
      refine (twos_neg (-a0) (IntKind.u64.wrap a0) (by omega) (by omega) (low_neg a0 l0 c) _).mono ?_
      rintro e w1 ⟨rfl, rfl⟩
      go_wp2_with fail
      go_ret
      exact ⟨rfl, k1⟩
    · have g2 : (a0 != -9223372036854775808) = true := by simp [d]
      go_enter Try.func3, Try.ntmps3
      go_wp2_with fail
      refine (wide_any a0 (-a0) true l0 u0 (.inl ⟨c, rfl, rfl⟩) _).mono ?_
      rintro e w1 ⟨rfl, k1⟩
      go_wp2_with fail
      refine (twos_neg (-a0) (IntKind.u64.wrap a0) (by omega) (by omega) (low_neg a0 l0 c) _).mono ?_
      rintro e w1 ⟨rfl, rfl⟩
      go_wp2_with fail
      refine (wide_any (-a0) (-a0) false (by omega) (by omega) (.inr ⟨by omega, rfl, rfl⟩) _).mono ?_
      rintro e w2 ⟨rfl, k2⟩
      go_wp2_with fail
      go_ret
      exact ⟨rfl, trans k1 k2⟩
  · have g2 : (a0 != -9223372036854775808) = true := by simp; omega
    by_cases d : 0 < a0
    · go_enter Try.func3, Try.ntmps3
      go_wp2_with fail
      refine (wide_any a0 a0 false l0 u0 (.inr ⟨by omega, rfl, rfl⟩) _).mono ?_
      rintro e w1 ⟨rfl, k1⟩
      go_wp2_with fail
      refine (twos_pos a0 _).mono ?_
      rintro e w1 ⟨rfl, rfl⟩
      go_wp2_with fail
      refine (wide_any (-a0) a0 true (by omega) (by omega) (.inl ⟨by omega, by omega, rfl⟩) _).mono ?_
      rintro e w2 ⟨rfl, k2⟩
      go_wp2_with fail
      go_ret
      exact ⟨rfl, trans k1 k2⟩
    · go_enter Try.func3, Try.ntmps3
      go_wp2_with fail
      refine (wide_any a0 a0 false l0 u0 (.inr ⟨by omega, rfl, rfl⟩) _).mono ?_
      rintro e w1 ⟨rfl, k1⟩
      go_wp2_with fail
      refine (twos_pos a0 _).mono ?_
      rintro e w1 ⟨rfl, rfl⟩
      go_wp2_with fail
      refine (wide_any (-a0) a0 false (by omega) (by omega) (.inr ⟨by omega, by omega, rfl⟩) _).mono ?_
      rintro e w2 ⟨rfl, k2⟩
      go_wp2_with fail
      go_ret
      exact ⟨rfl, trans k1 k2⟩
end Go.Proofs.Qxb6618541a.fnWideOfDenotesItsArgumentAndNegationFlipsTheSignAlone
