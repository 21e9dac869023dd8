/- THE WALK OF THE LAW 'FnFloorDivStepsWithD': it returns true, whatever it is handed. -/
import Derived.Test.Qxb6617171aFloor
import Derived.OpenShut
namespace Go.Proofs.Qxb6617171a.fnFloorDivStepsWithD
open Go.RowKit

theorem walk (a0 : Int) (a1 : Int) (w0 : (Lit.int .i64 a0).wf = true) (w1 : (Lit.int .i64 a1).wf = true) (w : World) :
    Calls Try.prog 4 #[.int .i64 a0, .int .i64 a1] w fun e w' => e = .returned (.bool true) ∧ Grown w w' := by
  obtain ⟨l0, u0⟩ := bounds_i64 w0
  obtain ⟨l1, u1⟩ := bounds_i64 w1
  clear w0 w1
  by_cases c1 : a1 ≤ 0
  · go_enter Try.func4, Try.ntmps4
    go_wp2_with fail
    go_ret
    exact ⟨rfl, Grown.refl _⟩
  by_cases c2 : 9223372036854775807 - a1 < a0
  · go_enter Try.func4, Try.ntmps4
    go_wp2_with fail
    go_ret
    exact ⟨rfl, Grown.refl _⟩
  have b1 := Int.emod_nonneg a0 (b := a1) (by omega)
  have b2 := Int.emod_lt_of_pos a0 (b := a1) (by omega)
  have b3 := step_q a0 a1 (by omega)
  have b4 := step_r a0 a1
  have b5 := ediv_bd (a0 + a1) a1 (by omega) (by omega) (by omega)
  rw [b3] at b5
  go_enter Try.func4, Try.ntmps4
  go_wp2_with fail
  refine (floorDiv_any a0 a1 l0 u0 (by omega) u1 _).mono ?_
  rintro e w' ⟨rfl, n1, rfl⟩
  go_wp2_with fail
  refine (floorDiv_any (a0 + a1) a1 (by omega) (by omega) (by omega) u1 _).mono ?_
  rintro e w' ⟨rfl, n2, rfl⟩
  go_wp2_with fail
  go_ret
  exact ⟨rfl, Grown.refl _⟩
end Go.Proofs.Qxb6617171a.fnFloorDivStepsWithD
