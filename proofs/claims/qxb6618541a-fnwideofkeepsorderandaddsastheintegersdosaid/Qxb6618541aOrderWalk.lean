/- THE WALK OF THE LAW 'FnWideOfKeepsOrderAndAddsAsTheIntegersDo': it returns true, whatever it is handed. -/
import Derived.Test.Qxb6618541aWalks
import Derived.OpenShut
namespace Go.Proofs.Qxb6618541a
open Go.RowKit

/-- zzCmpSM: the wides of a and b compare as a and b do. -/
theorem cmpSM_any (a b m1 m2 c : Int) (n1 n2 : Bool) (h1 : IsWide a m1 n1) (h2 : IsWide b m2 n2) (hc : IsSgn (a - b) c) (w : World) :
    Calls Try.prog 7 #[.int .u64 0, .int .u64 m1, .bool n1, .int .u64 0, .int .u64 m2, .bool n2] w fun e w' => e = .returned (.int .i64 c) ∧ w' = w := by
  obtain ⟨s, hs⟩ : ∃ s, IsSgn a s := by
    unfold IsSgn
    by_cases x : a < 0
    · exact ⟨-1, by omega⟩
    · by_cases y : a = 0
      · exact ⟨0, by omega⟩
      · exact ⟨1, by omega⟩
  obtain ⟨t, ht⟩ : ∃ t, IsSgn b t := by
    unfold IsSgn
    by_cases x : b < 0
    · exact ⟨-1, by omega⟩
    · by_cases y : b = 0
      · exact ⟨0, by omega⟩
      · exact ⟨1, by omega⟩
  have H1 : Hid (IsWide a m1 n1) := h1
  have H2 : Hid (IsWide b m2 n2) := h2
  have HC : Hid (IsSgn (a - b) c) := hc
  have HS : Hid (IsSgn a s) := hs
  have HT : Hid (IsSgn b t) := ht
  by_cases x : s < t
  · have e : c = -1 := by unfold IsSgn at *; omega
    have E : Hid (c = -1) := e
    clear h1 h2 hc hs ht e
    go_enter Try.func7, Try.ntmps7
    go_wp2_with fail
    refine (sign_any a m1 s n1 H1.out HS.out _).mono ?_
    rintro e w ⟨rfl, rfl⟩
    go_wp2_with fail
    refine (sign_any b m2 t n2 H2.out HT.out _).mono ?_
    rintro e w ⟨rfl, rfl⟩
    go_wp2_with fail
    go_ret
    exact ⟨by rw [E.out]; rfl, rfl⟩
  by_cases y : t < s
  · have e : c = 1 := by unfold IsSgn at *; omega
    have E : Hid (c = 1) := e
    clear h1 h2 hc hs ht e
    go_enter Try.func7, Try.ntmps7
    go_wp2_with fail
    refine (sign_any a m1 s n1 H1.out HS.out _).mono ?_
    rintro e w ⟨rfl, rfl⟩
    go_wp2_with fail
    refine (sign_any b m2 t n2 H2.out HT.out _).mono ?_
    rintro e w ⟨rfl, rfl⟩
    go_wp2_with fail
    go_ret
    exact ⟨by rw [E.out]; rfl, rfl⟩
  by_cases z : s = 0
  · have g : (s == 0) = true := by simp [z]
    have e : c = 0 := by unfold IsSgn at *; omega
    have E : Hid (c = 0) := e
    clear h1 h2 hc hs ht e z
    go_enter Try.func7, Try.ntmps7
    go_wp2_with fail
    refine (sign_any a m1 s n1 H1.out HS.out _).mono ?_
    rintro e w ⟨rfl, rfl⟩
    go_wp2_with fail
    refine (sign_any b m2 t n2 H2.out HT.out _).mono ?_
    rintro e w ⟨rfl, rfl⟩
    go_wp2_with fail
    go_ret
    exact ⟨by rw [E.out]; rfl, rfl⟩
  have g : (s == 0) = false := by simp [z]
  by_cases v : s < 0
  · have e : IsSgn (m1 - m2) (-c) := by unfold IsSgn IsWide at *; omega
    have E : Hid (IsSgn (m1 - m2) (-c)) := e
    have b1 : -1 ≤ c := by unfold IsSgn at *; omega
    have b2 : c ≤ 1 := by unfold IsSgn at *; omega
    clear h1 h2 hc hs ht e z
    go_enter Try.func7, Try.ntmps7
    go_wp2_with fail
    refine (sign_any a m1 s n1 H1.out HS.out _).mono ?_
    rintro e w ⟨rfl, rfl⟩
    go_wp2_with fail
    refine (sign_any b m2 t n2 H2.out HT.out _).mono ?_
    rintro e w ⟨rfl, rfl⟩
    go_wp2_with fail
    refine (cmpMag_any m1 m2 (-c) E.out _).mono ?_
    rintro e w ⟨rfl, rfl⟩
    go_wp2_with fail
    go_ret
    exact ⟨retI (by simp), rfl⟩
  · have e : IsSgn (m1 - m2) c := by unfold IsSgn IsWide at *; omega
    have E : Hid (IsSgn (m1 - m2) c) := e
    clear h1 h2 hc hs ht e z
    go_enter Try.func7, Try.ntmps7
    go_wp2_with fail
    refine (sign_any a m1 s n1 H1.out HS.out _).mono ?_
    rintro e w ⟨rfl, rfl⟩
    go_wp2_with fail
    refine (sign_any b m2 t n2 H2.out HT.out _).mono ?_
    rintro e w ⟨rfl, rfl⟩
    go_wp2_with fail
    refine (cmpMag_any m1 m2 c E.out _).mono ?_
    rintro e w ⟨rfl, rfl⟩
    go_wp2_with fail
    go_ret
    exact ⟨rfl, rfl⟩

theorem ret3 {k : IntKind} {a b c d : Int} {n m : Bool} (h1 : a = c) (h2 : b = d) (h3 : n = m) : Ending.returned (.tuple #[.int k a, .int k b, .bool n]) = .returned (.tuple #[.int k c, .int k d, .bool m]) := by rw [h1, h2, h3]

set_option maxRecDepth 100000 in
set_option maxHeartbeats 1000000 in
/-- zzAddSM: the wides of a and b add up to the wide of a + b, where that is an int64. -/
theorem addSM_any (a b m1 m2 m : Int) (n1 n2 n : Bool) (h1 : IsWide a m1 n1) (h2 : IsWide b m2 n2) (h : IsWide (a + b) m n)
    (la : -9223372036854775808 ≤ a) (ua : a ≤ 9223372036854775807) (lb : -9223372036854775808 ≤ b) (ub : b ≤ 9223372036854775807) (ls : -9223372036854775808 ≤ a + b) (us : a + b ≤ 9223372036854775807) (w : World) :
    Calls Try.prog 8 #[.int .u64 0, .int .u64 m1, .bool n1, .int .u64 0, .int .u64 m2, .bool n2] w fun e w' => e = .returned (.tuple #[.int .u64 0, .int .u64 m, .bool n]) ∧ w' = w := by
  unfold IsWide at h1 h2 h
  rcases h1 with ⟨c1, e1, rfl⟩ | ⟨c1, e1, rfl⟩ <;> rcases h2 with ⟨c2, e2, rfl⟩ | ⟨c2, e2, rfl⟩ <;> rw [e1, e2] <;> clear e1 e2 m1 m2
  · -- both negative
    obtain ⟨E, rfl⟩ : Hid (m = -a + -b) ∧ n = true := by
      rcases h with ⟨_, e1, e2⟩ | ⟨_, _, _⟩
      · exact ⟨show m = -a + -b by omega, e2⟩
      · omega
    clear h
    have g1 : (-a + -b != 0) = true := by simp; omega
    go_enter Try.func8, Try.ntmps8
    go_wp2_with fail
    go_ret3
    exact ⟨ret3 rfl E.out.symm rfl, rfl⟩
  · -- a negative, b not
    by_cases k0 : -a = b
    · obtain ⟨E, rfl⟩ : Hid (m = 0) ∧ n = false := by
        rcases h with ⟨_, e1, e2⟩ | ⟨_, e1, e2⟩
        · first | exact ⟨show m = 0 by omega, e2⟩ | omega
        · first | exact ⟨show m = 0 by omega, e2⟩ | omega
      have S : Hid (IsSgn (-a - b) 0) := by show IsSgn (-a - b) 0; unfold IsSgn; omega
      clear h k0
      go_enter Try.func8, Try.ntmps8
      go_wp2_with fail
      refine (cmpMag_any (-a) (b) 0 S.out _).mono ?_
      rintro e w ⟨rfl, rfl⟩
      go_wp2_with fail
      go_ret3
      have e := E.out
      exact ⟨ret3 rfl (by omega) rfl, rfl⟩
    by_cases k1 : b < -a
    · obtain ⟨E, rfl⟩ : Hid (m = -a - b) ∧ n = true := by
        rcases h with ⟨_, e1, e2⟩ | ⟨_, e1, e2⟩
        · first | exact ⟨show m = -a - b by omega, e2⟩ | omega
        · first | exact ⟨show m = -a - b by omega, e2⟩ | omega
      have S : Hid (IsSgn (-a - b) 1) := by show IsSgn (-a - b) 1; unfold IsSgn; omega
      clear h k0
      go_enter Try.func8, Try.ntmps8
      go_wp2_with fail
      refine (cmpMag_any (-a) (b) 1 S.out _).mono ?_
      rintro e w ⟨rfl, rfl⟩
      go_wp2_with fail
      refine (sub128_any (-a) (b) (by omega) (by omega) (by omega) _).mono ?_
      rintro e w ⟨rfl, rfl⟩
      go_wp2_with fail
      go_ret3
      have e := E.out
      exact ⟨ret3 rfl (by omega) rfl, rfl⟩
    have k2 : -a < b := by omega
    obtain ⟨E, rfl⟩ : Hid (m = b - -a) ∧ n = false := by
      rcases h with ⟨_, e1, e2⟩ | ⟨_, e1, e2⟩
      · first | exact ⟨show m = b - -a by omega, e2⟩ | omega
      · first | exact ⟨show m = b - -a by omega, e2⟩ | omega
    have S : Hid (IsSgn (-a - b) (-1)) := by show IsSgn (-a - b) (-1); unfold IsSgn; omega
    clear h k0
    go_enter Try.func8, Try.ntmps8
    go_wp2_with fail
    refine (cmpMag_any (-a) (b) (-1) S.out _).mono ?_
    rintro e w ⟨rfl, rfl⟩
    go_wp2_with fail
    refine (sub128_any (b) (-a) (by omega) (by omega) (by omega) _).mono ?_
    rintro e w ⟨rfl, rfl⟩
    go_wp2_with fail
    go_ret3
    have e := E.out
    exact ⟨ret3 rfl (by omega) rfl, rfl⟩
  · -- b negative, a not
    by_cases k0 : a = -b
    · obtain ⟨E, rfl⟩ : Hid (m = 0) ∧ n = false := by
        rcases h with ⟨_, e1, e2⟩ | ⟨_, e1, e2⟩
        · first | exact ⟨show m = 0 by omega, e2⟩ | omega
        · first | exact ⟨show m = 0 by omega, e2⟩ | omega
      have S : Hid (IsSgn (a - -b) 0) := by show IsSgn (a - -b) 0; unfold IsSgn; omega
      clear h k0
      go_enter Try.func8, Try.ntmps8
      go_wp2_with fail
      refine (cmpMag_any (a) (-b) 0 S.out _).mono ?_
      rintro e w ⟨rfl, rfl⟩
      go_wp2_with fail
      go_ret3
      have e := E.out
      exact ⟨ret3 rfl (by omega) rfl, rfl⟩
    by_cases k1 : -b < a
    · obtain ⟨E, rfl⟩ : Hid (m = a - -b) ∧ n = false := by
        rcases h with ⟨_, e1, e2⟩ | ⟨_, e1, e2⟩
        · first | exact ⟨show m = a - -b by omega, e2⟩ | omega
        · first | exact ⟨show m = a - -b by omega, e2⟩ | omega
      have S : Hid (IsSgn (a - -b) 1) := by show IsSgn (a - -b) 1; unfold IsSgn; omega
      clear h k0
      go_enter Try.func8, Try.ntmps8
      go_wp2_with fail
      refine (cmpMag_any (a) (-b) 1 S.out _).mono ?_
      rintro e w ⟨rfl, rfl⟩
      go_wp2_with fail
      refine (sub128_any (a) (-b) (by omega) (by omega) (by omega) _).mono ?_
      rintro e w ⟨rfl, rfl⟩
      go_wp2_with fail
      go_ret3
      have e := E.out
      exact ⟨ret3 rfl (by omega) rfl, rfl⟩
    have k2 : a < -b := by omega
    obtain ⟨E, rfl⟩ : Hid (m = -b - a) ∧ n = true := by
      rcases h with ⟨_, e1, e2⟩ | ⟨_, e1, e2⟩
      · first | exact ⟨show m = -b - a by omega, e2⟩ | omega
      · first | exact ⟨show m = -b - a by omega, e2⟩ | omega
    have S : Hid (IsSgn (a - -b) (-1)) := by show IsSgn (a - -b) (-1); unfold IsSgn; omega
    clear h k0
    go_enter Try.func8, Try.ntmps8
    go_wp2_with fail
    refine (cmpMag_any (a) (-b) (-1) S.out _).mono ?_
    rintro e w ⟨rfl, rfl⟩
    go_wp2_with fail
    refine (sub128_any (-b) (a) (by omega) (by omega) (by omega) _).mono ?_
    rintro e w ⟨rfl, rfl⟩
    go_wp2_with fail
    go_ret3
    have e := E.out
    exact ⟨ret3 rfl (by omega) rfl, rfl⟩
  · -- neither negative
    obtain ⟨E, rfl⟩ : Hid (m = a + b) ∧ n = false := by
      rcases h with ⟨_, _, _⟩ | ⟨_, e1, e2⟩
      · omega
      · exact ⟨e1, e2⟩
    clear h
    go_enter Try.func8, Try.ntmps8
    go_wp2_with fail
    go_ret3
    exact ⟨ret3 rfl E.out.symm rfl, rfl⟩
end Go.Proofs.Qxb6618541a
namespace Go.Proofs.Qxb6618541a.fnWideOfKeepsOrderAndAddsAsTheIntegersDo
open Go.RowKit
theorem trans {a b c : World} (h : Grown a b) (h' : Grown b c) : Grown a c :=
  ⟨World.keptBut_trans h.1 h'.1, fun x => (h'.2.1 x).trans (h.2.1 x), Nat.le_trans h.2.2 h'.2.2⟩
theorem wide_ex (a : Int) : ∃ m n, IsWide a m n := by
  unfold IsWide
  by_cases h : a < 0
  · exact ⟨-a, true, .inl ⟨h, rfl, rfl⟩⟩
  · exact ⟨a, false, .inr ⟨by omega, rfl, rfl⟩⟩

set_option maxRecDepth 100000 in
set_option maxHeartbeats 1000000 in
/-- The sum is an int64. -/
theorem walk_in (a b m1 m2 m c : Int) (n1 n2 n : Bool) (H1 : Hid (IsWide a m1 n1)) (H2 : Hid (IsWide b m2 n2)) (H : Hid (IsWide (a + b) m n)) (HC : Hid (IsSgn (a - b) c))
    (la : -9223372036854775808 ≤ a) (ua : a ≤ 9223372036854775807) (lb : -9223372036854775808 ≤ b) (ub : b ≤ 9223372036854775807) (ls : -9223372036854775808 ≤ a + b) (us : a + b ≤ 9223372036854775807)
    (hc : (decide (a < b) = true ∧ c = -1) ∨ (decide (a < b) = false ∧ decide (b < a) = true ∧ c = 1) ∨ (decide (a < b) = false ∧ decide (b < a) = false ∧ c = 0))
    (hb : (0 < b ∧ decide (0 < b) = true ∧ decide (9223372036854775807 - b < a) = false) ∨ (b < 0 ∧ decide (0 < b) = false ∧ decide (b < 0) = true ∧ decide (a < -9223372036854775808 - b) = false) ∨ (decide (0 < b) = false ∧ decide (b < 0) = false)) (w : World) :
    Calls Try.prog 4 #[.int .i64 a, .int .i64 b] w fun e w' => e = .returned (.bool true) ∧ Grown w w' := by
  rcases hc with ⟨g1, rfl⟩ | ⟨g1, g2, rfl⟩ | ⟨g1, g2, rfl⟩
  all_goals
    rcases hb with ⟨f0, f1, f2⟩ | ⟨f0, f1, f2, f3⟩ | ⟨f1, f2⟩
  all_goals
    go_enter Try.func4, Try.ntmps4
    go_wp2_with fail
    refine (wide_any a m1 n1 la ua H1.out _).mono ?_
    rintro e w1 ⟨rfl, k1⟩
    go_wp2_with fail
    refine (wide_any b m2 n2 lb ub H2.out _).mono ?_
    rintro e w2 ⟨rfl, k2⟩
    go_wp2_with fail
    refine (cmpSM_any a b m1 m2 _ n1 n2 H1.out H2.out HC.out _).mono ?_
    rintro e w2 ⟨rfl, rfl⟩
    go_wp2_with fail
    refine (addSM_any a b m1 m2 m n1 n2 n H1.out H2.out H.out la ua lb ub ls us _).mono ?_
    rintro e w2 ⟨rfl, rfl⟩
    go_wp2_with fail
    refine (wide_any (a + b) m n ls us H.out _).mono ?_
    rintro e w3 ⟨rfl, k3⟩
    go_wp2_with fail
    go_ret
    exact ⟨rfl, trans (trans k1 k2) k3⟩

set_option maxRecDepth 100000 in
set_option maxHeartbeats 1000000 in
/-- The sum is no int64: the order is asked, and no more. -/
theorem walk_out (a b m1 m2 c : Int) (n1 n2 : Bool) (H1 : Hid (IsWide a m1 n1)) (H2 : Hid (IsWide b m2 n2)) (HC : Hid (IsSgn (a - b) c))
    (la : -9223372036854775808 ≤ a) (ua : a ≤ 9223372036854775807) (lb : -9223372036854775808 ≤ b) (ub : b ≤ 9223372036854775807)
    (hc : (decide (a < b) = true ∧ c = -1) ∨ (decide (a < b) = false ∧ decide (b < a) = true ∧ c = 1) ∨ (decide (a < b) = false ∧ decide (b < a) = false ∧ c = 0))
    (hb : (0 < b ∧ decide (0 < b) = true ∧ decide (9223372036854775807 - b < a) = true) ∨ (b < 0 ∧ decide (0 < b) = false ∧ decide (b < 0) = true ∧ decide (a < -9223372036854775808 - b) = true)) (w : World) :
    Calls Try.prog 4 #[.int .i64 a, .int .i64 b] w fun e w' => e = .returned (.bool true) ∧ Grown w w' := by
  rcases hc with ⟨g1, rfl⟩ | ⟨g1, g2, rfl⟩ | ⟨g1, g2, rfl⟩
  all_goals
    rcases hb with ⟨f0, f1, f2⟩ | ⟨f0, f1, f2, f3⟩
  all_goals
    go_enter Try.func4, Try.ntmps4
    go_wp2_with fail
    refine (wide_any a m1 n1 la ua H1.out _).mono ?_
    rintro e w1 ⟨rfl, k1⟩
    go_wp2_with fail
    refine (wide_any b m2 n2 lb ub H2.out _).mono ?_
    rintro e w2 ⟨rfl, k2⟩
    go_wp2_with fail
    refine (cmpSM_any a b m1 m2 _ n1 n2 H1.out H2.out HC.out _).mono ?_
    rintro e w2 ⟨rfl, rfl⟩
    go_wp2_with fail
    go_ret
    exact ⟨rfl, trans k1 k2⟩

theorem walk (a0 : Int) (a1 : Int) (w0 : (Lit.int .i64 a0).wf = true) (w1 : (Lit.int .i64 a1).wf = true) (w : World) :
    Calls Try.prog 4 #[.int .i64 a0, .int .i64 a1] w fun e w' => e = .returned (.bool true) ∧ Grown w w' := by
  obtain ⟨l0, u0⟩ := bounds_i64 w0
  obtain ⟨l1, u1⟩ := bounds_i64 w1
  clear w0 w1
  obtain ⟨m1, n1, H1⟩ := wide_ex a0
  obtain ⟨m2, n2, H2⟩ := wide_ex a1
  obtain ⟨m, n, H⟩ := wide_ex (a0 + a1)
  obtain ⟨c, HC, hc⟩ : ∃ c, IsSgn (a0 - a1) c ∧ ((decide (a0 < a1) = true ∧ c = -1) ∨ (decide (a0 < a1) = false ∧ decide (a1 < a0) = true ∧ c = 1) ∨ (decide (a0 < a1) = false ∧ decide (a1 < a0) = false ∧ c = 0)) := by
    unfold IsSgn
    by_cases x : a0 < a1
    · exact ⟨-1, by omega, .inl ⟨by simpa using x, rfl⟩⟩
    · by_cases y : a1 < a0
      · exact ⟨1, by omega, .inr (.inl ⟨by simpa using x, by simpa using y, rfl⟩)⟩
      · exact ⟨0, by omega, .inr (.inr ⟨by simpa using x, by simpa using y, rfl⟩)⟩
  by_cases p : 0 < a1
  · have p' : decide (0 < a1) = true := by simpa using p
    by_cases q : 9223372036854775807 - a1 < a0
    · exact walk_out a0 a1 m1 m2 c n1 n2 H1 H2 HC l0 u0 l1 u1 hc (.inl ⟨p, p', by simpa using q⟩) w
    · exact walk_in a0 a1 m1 m2 m c n1 n2 n H1 H2 H HC l0 u0 l1 u1 (by omega) (by omega) hc (.inl ⟨p, p', by simpa using q⟩) w
  · have p' : decide (0 < a1) = false := by simpa using p
    by_cases r : a1 < 0
    · have r' : decide (a1 < 0) = true := by simpa using r
      by_cases q : a0 < -9223372036854775808 - a1
      · exact walk_out a0 a1 m1 m2 c n1 n2 H1 H2 HC l0 u0 l1 u1 hc (.inr ⟨r, p', r', by simpa using q⟩) w
      · exact walk_in a0 a1 m1 m2 m c n1 n2 n H1 H2 H HC l0 u0 l1 u1 (by omega) (by omega) hc (.inr (.inl ⟨r, p', r', by simpa using q⟩)) w
    · exact walk_in a0 a1 m1 m2 m c n1 n2 n H1 H2 H HC l0 u0 l1 u1 (by omega) (by omega) hc (.inr (.inr ⟨p', by simpa using r⟩)) w
end Go.Proofs.Qxb6618541a.fnWideOfKeepsOrderAndAddsAsTheIntegersDo
