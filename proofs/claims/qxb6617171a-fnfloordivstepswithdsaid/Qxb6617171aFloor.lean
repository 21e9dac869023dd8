/- THE WALK OF 'algo.FloorDiv': for a positive d it hands back the floored pair. -/
import Derived.Test.Qxb6617171aRows
import Derived.Test.Qxb6617171aPlain
import Derived.WalkKit
import Derived.WalkSpells
import Derived.Deep.QuietTactic
import Derived.BigQuiet
import Derived.RowKit3
namespace Go.Proofs.Qxb6617171a
open Go.RowKit

theorem floorDiv_any (t d : Int) (h1 : -9223372036854775808 ≤ t) (h2 : t ≤ 9223372036854775807) (hd : 0 < d) (hd' : d ≤ 9223372036854775807) (w : World) :
    Calls Try.prog 9 #[.int .i64 t, .int .i64 d] w fun e w' => e = .returned (.tuple #[.int .i64 (t / d), .int .i64 (t % d)]) ∧ ∃ n, w' = w.drewN n := by
  have b1 := tdiv_bd t d hd h1 h2
  have b2 := tmod_bd t d hd
  by_cases c : t.tmod d < 0
  · have e := floor_down t d hd c
    have b3 := ediv_bd t d hd h1 h2
    have E1 : Hid (t.tdiv d - 1 = t / d) := e.1
    have E2 : Hid (t.tmod d + d = t % d) := e.2
    have k1 : -9223372036854775808 ≤ t.tdiv d - 1 := by omega
    clear e b3
    go_enter Try.func9, Try.ntmps9
    go_wp2
    go_quiet (fail)
    go_wp2
    go_ret2
    rw [E1.out, E2.out]
    exact ⟨rfl, _, rfl⟩
  · have e := floor_up t d hd (by omega)
    have E1 : Hid (t.tdiv d = t / d) := e.1
    have E2 : Hid (t.tmod d = t % d) := e.2
    clear e
    go_enter Try.func9, Try.ntmps9
    go_wp2
    go_quiet (fail)
    go_wp2
    go_ret2
    rw [E1.out, E2.out]
    exact ⟨rfl, _, rfl⟩
/-- The same, the number and the pair under names of their own. -/
theorem floorDiv_of (t d q r : Int) {t' : Int} (et : t' = t) (eq : t / d = q) (er : t % d = r) (h1 : -9223372036854775808 ≤ t) (h2 : t ≤ 9223372036854775807) (hd : 0 < d) (hd' : d ≤ 9223372036854775807) (w : World) :
    Calls Try.prog 9 #[.int .i64 t', .int .i64 d] w fun e w' => e = .returned (.tuple #[.int .i64 q, .int .i64 r]) ∧ ∃ n, w' = w.drewN n := by
  subst et eq er; exact floorDiv_any t' d h1 h2 hd hd' w
end Go.Proofs.Qxb6617171a
