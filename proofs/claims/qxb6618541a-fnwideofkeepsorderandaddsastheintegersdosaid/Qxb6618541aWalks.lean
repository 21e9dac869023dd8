/- THE WALKS of abs64, wideOf, ZZwideOf, zzTwos, zzSignSM, zzCmpMag, zzSub128. -/
import Derived.Test.Qxb6618541aRows
import Derived.WalkKit
import Derived.WalkSpells
import Derived.Deep.QuietTactic
import Derived.BigQuiet
import Derived.RowKit3
import Derived.Laws.BitsAllLaws
namespace Go.Proofs.Qxb6618541a
open Go.RowKit

/-- m is a's magnitude, n its sign. -/
def IsWide (a m : Int) (n : Bool) : Prop := (a < 0 ∧ m = -a ∧ n = true) ∨ (0 ≤ a ∧ m = a ∧ n = false)

theorem retI {k : IntKind} {a b : Int} (h : a = b) : Ending.returned (.int k a) = .returned (.int k b) := by rw [h]
theorem abs_wrap (a : Int) (l : -9223372036854775808 ≤ a) (h : a < 0) : IntKind.u64.wrap (wrap64 (-a)) = -a := by
  rw [IntKind.wrap_u64]; unfold wrap64; omega
theorem abs_neg (a : Int) (l : -9223372036854775808 ≤ a) (h : a < 0) (w : World) :
    Calls Try.prog 13 #[.int .i64 a] w fun e w' => e = .returned (.int .u64 (-a)) ∧ w' = w := by
  go_enter Try.func13, Try.ntmps13
  go_wp2
  go_ret
  exact ⟨retI (abs_wrap a l h), rfl⟩
theorem abs_pos (a : Int) (h : 0 ≤ a) (u : a ≤ 9223372036854775807) (w : World) :
    Calls Try.prog 13 #[.int .i64 a] w fun e w' => e = .returned (.int .u64 a) ∧ w' = w := by
  go_enter Try.func13, Try.ntmps13
  go_wp2
  go_ret
  exact ⟨rfl, rfl⟩
theorem abs_any (a m : Int) (l : -9223372036854775808 ≤ a) (u : a ≤ 9223372036854775807) (h : (a < 0 ∧ m = -a) ∨ (0 ≤ a ∧ m = a)) (w : World) :
    Calls Try.prog 13 #[.int .i64 a] w fun e w' => e = .returned (.int .u64 m) ∧ w' = w := by
  rcases h with ⟨h, rfl⟩ | ⟨h, rfl⟩
  · exact abs_neg a l h w
  · exact abs_pos _ h u w
theorem wideOf_any (a m : Int) (n : Bool) (l : -9223372036854775808 ≤ a) (u : a ≤ 9223372036854775807) (h : (a < 0 ∧ m = -a) ∨ (0 ≤ a ∧ m = a)) (hn : decide (a < 0) = n) (w : World) :
    Calls Try.prog 9 #[.int .i64 a] w fun e w' => e = .returned (.agg #[.int .u64 0, .int .u64 m, .bool n]) ∧ ∃ c, w' = w.alloc (.cells c 32) := by
  have H : Hid ((a < 0 ∧ m = -a) ∨ (0 ≤ a ∧ m = a)) := h
  clear h
  go_enter Try.func9, Try.ntmps9
  go_wp2_with fail
  refine (abs_any a m l u H.out _).mono ?_
  rintro e w' ⟨rfl, rfl⟩
  go_wp2_with fail
  simp [bodyPost, results, Try.results9, go_sem]
  exact ⟨_, rfl⟩
theorem grown_drewN {w w' : World} (h : Grown w w') (n : Nat) : Grown w (w'.drewN n) := h
theorem wide_any (a m : Int) (n : Bool) (l : -9223372036854775808 ≤ a) (u : a ≤ 9223372036854775807) (h : IsWide a m n) (w : World) :
    Calls Try.prog 5 #[.int .i64 a] w fun e w' => e = .returned (.tuple #[.int .u64 0, .int .u64 m, .bool n]) ∧ Grown w w' := by
  have h1 : (a < 0 ∧ m = -a) ∨ (0 ≤ a ∧ m = a) := by unfold IsWide at h; omega
  have h2 : decide (a < 0) = n := by
    rcases h with ⟨h, _, rfl⟩ | ⟨h, _, rfl⟩
    · simpa using h
    · simpa using h
  have H1 : Hid ((a < 0 ∧ m = -a) ∨ (0 ≤ a ∧ m = a)) := h1
  have H2 : Hid (decide (a < 0) = n) := h2
  clear h h1 h2
  go_enter Try.func5, Try.ntmps5
  go_wp2_with fail
  refine (wideOf_any a m n l u H1.out H2.out _).mono ?_
  rintro e w' ⟨rfl, c, rfl⟩
  go_wp2_with fail
  go_quiet (fail)
  go_wp2
  go_ret3
  exact ⟨rfl, grown_drewN (((Grown.refl _).alloc _ _).alloc _ _) _⟩

/-! ### zzTwos -/
theorem ret2 {k : IntKind} {a b c d : Int} (h1 : a = c) (h2 : b = d) : Ending.returned (.tuple #[.int k a, .int k b]) = .returned (.tuple #[.int k c, .int k d]) := by rw [h1, h2]
theorem cpl_u64 (x : Int) (hx : 0 ≤ x) (hx' : x < 18446744073709551616) : bits .xor .u64 (if IntKind.u64.signed = true then -1 else IntKind.u64.max) x = 18446744073709551615 - x := by
  have e' : (if IntKind.u64.signed = true then -1 else IntKind.u64.max) = 18446744073709551615 := by decide
  rw [e']
  show IntKind.u64.wrap ((BitVec.ofInt 64 18446744073709551615 ^^^ BitVec.ofInt 64 x).toNat : Int) = _
  have e : BitVec.ofInt 64 18446744073709551615 = BitVec.allOnes 64 := by decide
  rw [e, BitVec.allOnes_xor, BitVec.toNat_not, BitVec.toNat_ofInt, IntKind.wrap_u64]
  omega
theorem cpl_zero : bits .xor .u64 (if IntKind.u64.signed = true then -1 else IntKind.u64.max) 0 = 18446744073709551615 := by
  rw [cpl_u64 0 (by omega) (by omega)]; rfl
theorem cpl_low (m t : Int) (h1 : 0 < m) (h2 : m ≤ 9223372036854775808) (ht : t = 18446744073709551616 - m) : IntKind.u64.wrap (bits .xor .u64 (if IntKind.u64.signed = true then -1 else IntKind.u64.max) m + 1) = t := by
  rw [cpl_u64 m (by omega) (by omega), IntKind.wrap_u64]; omega
theorem twos_pos (m : Int) (w : World) :
    Calls Try.prog 6 #[.int .u64 0, .int .u64 m, .bool false] w fun e w' => e = .returned (.tuple #[.int .u64 0, .int .u64 m]) ∧ w' = w := by
  go_enter Try.func6, Try.ntmps6
  go_wp2
  go_ret2
  exact ⟨rfl, rfl⟩
theorem twos_neg (m t : Int) (h1 : 0 < m) (h2 : m ≤ 9223372036854775808) (ht : t = 18446744073709551616 - m) (w : World) :
    Calls Try.prog 6 #[.int .u64 0, .int .u64 m, .bool true] w fun e w' => e = .returned (.tuple #[.int .u64 18446744073709551615, .int .u64 t]) ∧ w' = w := by
  have HT : Hid (t = 18446744073709551616 - m) := ht
  have g : (m == 0) = false := by simp; omega
  clear ht
  go_enter Try.func6, Try.ntmps6
  go_wp2
  go_ret2
  exact ⟨ret2 cpl_zero (cpl_low m t h1 h2 HT.out), rfl⟩

/-! ### zzSignSM, zzCmpMag, zzSub128, at high words 0 -/
/-- s is the sign of a. -/
def IsSgn (a s : Int) : Prop := (a < 0 ∧ s = -1) ∨ (a = 0 ∧ s = 0) ∨ (0 < a ∧ s = 1)
theorem sign_any (a m s : Int) (n : Bool) (h : IsWide a m n) (hs : IsSgn a s) (w : World) :
    Calls Try.prog 10 #[.int .u64 0, .int .u64 m, .bool n] w fun e w' => e = .returned (.int .i64 s) ∧ w' = w := by
  unfold IsWide IsSgn at *
  rcases hs with ⟨c, rfl⟩ | ⟨c, rfl⟩ | ⟨c, rfl⟩
  · obtain ⟨rfl, g⟩ : n = true ∧ (m == 0) = false := by
      rcases h with ⟨_, _, e⟩ | ⟨_, _, _⟩
      · exact ⟨e, by simp; omega⟩
      · omega
    clear h
    go_enter Try.func10, Try.ntmps10
    go_wp2
    go_ret
    exact ⟨rfl, rfl⟩
  · obtain ⟨rfl, g⟩ : n = false ∧ (m == 0) = true := by
      rcases h with ⟨_, _, _⟩ | ⟨_, _, e⟩
      · omega
      · exact ⟨e, by simp; omega⟩
    clear h
    go_enter Try.func10, Try.ntmps10
    go_wp2
    go_ret
    exact ⟨rfl, rfl⟩
  · obtain ⟨rfl, g⟩ : n = false ∧ (m == 0) = false := by
      rcases h with ⟨_, _, _⟩ | ⟨_, _, e⟩
      · omega
      · exact ⟨e, by simp; omega⟩
    clear h
    go_enter Try.func10, Try.ntmps10
    go_wp2
    go_ret
    exact ⟨rfl, rfl⟩
theorem cmpMag_any (x y c : Int) (h : IsSgn (x - y) c) (w : World) :
    Calls Try.prog 11 #[.int .u64 0, .int .u64 x, .int .u64 0, .int .u64 y] w fun e w' => e = .returned (.int .i64 c) ∧ w' = w := by
  unfold IsSgn at h
  rcases h with ⟨h, rfl⟩ | ⟨h, rfl⟩ | ⟨h, rfl⟩
  · have g : (x != y) = true := by simp; omega
    have g' : x < y := by omega
    clear h
    go_enter Try.func11, Try.ntmps11
    go_wp2
    go_ret
    exact ⟨rfl, rfl⟩
  · have g : (x != y) = false := by simp; omega
    clear h
    go_enter Try.func11, Try.ntmps11
    go_wp2
    go_ret
    exact ⟨rfl, rfl⟩
  · have g : (x != y) = true := by simp; omega
    have g' : ¬ x < y := by omega
    clear h
    go_enter Try.func11, Try.ntmps11
    go_wp2
    go_ret
    exact ⟨rfl, rfl⟩
theorem sub128_any (x y : Int) (h1 : 0 ≤ y) (h2 : y ≤ x) (h3 : x ≤ 9223372036854775808) (w : World) :
    Calls Try.prog 12 #[.int .u64 0, .int .u64 x, .int .u64 0, .int .u64 y] w fun e w' => e = .returned (.tuple #[.int .u64 0, .int .u64 (x - y)]) ∧ w' = w := by
  go_enter Try.func12, Try.ntmps12
  go_wp2
  go_ret2
  exact ⟨rfl, rfl⟩
end Go.Proofs.Qxb6618541a
