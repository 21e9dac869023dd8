/- THE WALK OF THE LAW 'FnFloorDivEuclideanAndComplement': it returns true, whatever it is handed. -/
import Derived.Test.Qxb6617171aFloor
import Derived.Test.Qxb6617171aWords
import Derived.OpenShut
namespace Go.Proofs.Qxb6617171a.fnFloorDivEuclideanAndComplement
open Go.RowKit

/-! ### THE PLAIN LAW's ENDS -/
theorem hi_neg (t : Int) (h : -9223372036854775808 ≤ t) (h' : t < 0) : hiW t = 18446744073709551615 := by unfold hiW; omega
theorem hi_pos (t : Int) (h : 0 ≤ t) (h' : t ≤ 9223372036854775807) : hiW t = 0 := by unfold hiW; omega
theorem lo_wrap (t : Int) : loW t = IntKind.u64.wrap t := by rw [IntKind.wrap_u64]; rfl
theorem pair_sum (t d : Int) : t / d * d + t % d = t := Int.ediv_mul_add_emod t d


/-- The walk for a positive d, over the pair (q, r) under names. -/
theorem walk_pos (t d q r : Int) (l0 : -9223372036854775808 ≤ t) (u0 : t ≤ 9223372036854775807) (hd : 0 < d) (u1 : d ≤ 9223372036854775807)
    (eq : t / d = q) (er : t % d = r) (w : World) :
    Calls Try.prog 3 #[.int .i64 t, .int .i64 d] w fun e w' => e = .returned (.bool true) ∧ Grown w w' := by
  have b1 := Int.emod_nonneg t (b := d) (by omega)
  have b2 := Int.emod_lt_of_pos t (b := d) hd
  have b5 := ediv_bd t d hd l0 u0
  have p1 := compl_pair t d hd
  have p2 := pair_sum t d
  rw [eq, er] at p1 p2
  rw [er] at b1 b2
  rw [eq] at b5
  have P1 : Hid ((-t - 1) / d = -q - 1 ∧ (-t - 1) % d = d - 1 - r) := p1
  have P2 : Hid (q * d + r = t) := p2
  have EQ : Hid (t / d = q) := eq
  have ER : Hid (t % d = r) := er
  have k1 : bits .xor .i64 (-1) q = -q - 1 := not_i64 q b5.1 b5.2
  clear p1 p2 eq er
  by_cases c2 : t < 0
  · have z1 : (hiW t == 18446744073709551615) = true := by rw [hi_neg t l0 c2]; rfl
    have z2 : (loW t == IntKind.u64.wrap t) = true := by rw [lo_wrap]; simp
    go_enter Try.func3, Try.ntmps3
    go_wp2_with fail
    refine (floorDiv_of t d q r rfl EQ.out ER.out l0 u0 hd u1 _).mono ?_
    rintro e w' ⟨rfl, n1, rfl⟩
    go_wp2_with fail
    refine (floorDiv_of (-t - 1) d (-q - 1) (d - 1 - r) (not_i64 t l0 u0) P1.out.1 P1.out.2 (by omega) (by omega) hd u1 _).mono ?_
    rintro e w' ⟨rfl, n2, rfl⟩
    go_wp2_with fail
    refine (mulS_any q d b5.1 b5.2 (by omega) (by omega) _).mono ?_
    rintro e w' ⟨rfl, rfl⟩
    go_wp2_with fail
    refine (add128_sum (q * d) r t P2.out rfl rfl (hiW_small r (by omega) (by omega)).symm (loW_small r (by omega) (by omega)).symm _).mono ?_
    rintro e w' ⟨rfl, rfl⟩
    go_wp2_with fail
    go_ret
    exact ⟨rfl, Grown.refl _⟩
  · have z1 : (hiW t == 0) = true := by rw [hi_pos t (by omega) u0]; rfl
    have z2 : (loW t == t) = true := by rw [loW_small t (by omega) (by omega)]; simp
    go_enter Try.func3, Try.ntmps3
    go_wp2_with fail
    refine (floorDiv_of t d q r rfl EQ.out ER.out l0 u0 hd u1 _).mono ?_
    rintro e w' ⟨rfl, n1, rfl⟩
    go_wp2_with fail
    refine (floorDiv_of (-t - 1) d (-q - 1) (d - 1 - r) (not_i64 t l0 u0) P1.out.1 P1.out.2 (by omega) (by omega) hd u1 _).mono ?_
    rintro e w' ⟨rfl, n2, rfl⟩
    go_wp2_with fail
    refine (mulS_any q d b5.1 b5.2 (by omega) (by omega) _).mono ?_
    rintro e w' ⟨rfl, rfl⟩
    go_wp2_with fail
    refine (add128_sum (q * d) r t P2.out rfl rfl (hiW_small r (by omega) (by omega)).symm (loW_small r (by omega) (by omega)).symm _).mono ?_
    rintro e w' ⟨rfl, rfl⟩
    go_wp2_with fail
    go_ret
    exact ⟨rfl, Grown.refl _⟩

theorem walk (a0 : Int) (a1 : Int) (w0 : (Lit.int .i64 a0).wf = true) (w1 : (Lit.int .i64 a1).wf = true) (w : World) :
    Calls Try.prog 3 #[.int .i64 a0, .int .i64 a1] w fun e w' => e = .returned (.bool true) ∧ Grown w w' := by
  obtain ⟨l0, u0⟩ := bounds_i64 w0
  obtain ⟨l1, u1⟩ := bounds_i64 w1
  clear w0 w1
  by_cases c1 : a1 ≤ 0
  · go_enter Try.func3, Try.ntmps3
    go_wp2_with fail
    go_ret
    exact ⟨rfl, Grown.refl _⟩
  · exact walk_pos a0 a1 _ _ l0 u0 (by omega) u1 rfl rfl w
end Go.Proofs.Qxb6617171a.fnFloorDivEuclideanAndComplement
