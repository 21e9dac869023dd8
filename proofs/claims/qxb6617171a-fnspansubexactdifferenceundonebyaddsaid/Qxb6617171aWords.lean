/- THE WALKS OF THE 128-BIT HELPERS: zzMul64, zzAdd128, zzMulSigned, zzSpanVal, zzLE128. Each pair of words is told as (hiW N, loW N) of an Int N. -/
import Derived.Test.Qxb6617171aRows
import Derived.Test.Qxb6617171aPlain
import Derived.WalkKit
import Derived.WalkSpells
import Derived.RowKit3
import Derived.Laws.BitsAllLaws
namespace Go.Proofs.Qxb6617171a
open Go.RowKit

theorem ret2 {k : IntKind} {a b c d : Int} (h1 : a = c) (h2 : b = d) : Ending.returned (.tuple #[.int k a, .int k b]) = .returned (.tuple #[.int k c, .int k d]) := by rw [h1, h2]

theorem and32 (x : Int) (hx : 0 ≤ x) (hx' : x < 18446744073709551616) : bits .and .u64 x 4294967295 = x % 4294967296 := by
  rw [u64_and x 4294967295 hx hx' (by omega) (by omega)]
  have e : (4294967295 : Int).toNat = 2 ^ 32 - 1 := by decide
  rw [e, Nat.and_two_pow_sub_one_eq_mod]
  omega
theorem wrap_bd (n : Int) : 0 ≤ IntKind.u64.wrap n ∧ IntKind.u64.wrap n < 18446744073709551616 := by rw [IntKind.wrap_u64]; omega

theorem mul_raw (x y : Int) (hx : 0 ≤ x) (hx' : x < 18446744073709551616) (hy : 0 ≤ y) (hy' : y < 18446744073709551616) :
    IntKind.u64.wrap (IntKind.u64.wrap (IntKind.u64.wrap (x / 4294967296 * (y / 4294967296)) + IntKind.u64.wrap (IntKind.u64.wrap (x / 4294967296 * bits BinOp.and IntKind.u64 y 4294967295) + IntKind.u64.wrap (bits BinOp.and IntKind.u64 x 4294967295 * bits BinOp.and IntKind.u64 y 4294967295) / 4294967296) / 4294967296)
      + IntKind.u64.wrap (bits BinOp.and IntKind.u64 (IntKind.u64.wrap (IntKind.u64.wrap (x / 4294967296 * bits BinOp.and IntKind.u64 y 4294967295) + IntKind.u64.wrap (bits BinOp.and IntKind.u64 x 4294967295 * bits BinOp.and IntKind.u64 y 4294967295) / 4294967296)) 4294967295
        + IntKind.u64.wrap (bits BinOp.and IntKind.u64 x 4294967295 * (y / 4294967296))) / 4294967296) = hiW (x * y) := by
  have a3 : ∀ n, bits .and .u64 (IntKind.u64.wrap n) 4294967295 = IntKind.u64.wrap n % 4294967296 := fun n => and32 _ (wrap_bd n).1 (wrap_bd n).2
  rw [and32 x hx hx', and32 y hy hy', ← school x y hx hx' hy hy']
  simp only [a3]
  simp only [IntKind.wrap_u64]
  have b1 := mul_bd (x / 4294967296) (y / 4294967296) 4294967295 (by omega) (by omega) (by omega) (by omega)
  have b2 := mul_bd (x / 4294967296) (y % 4294967296) 4294967295 (by omega) (by omega) (by omega) (by omega)
  have b3 := mul_bd (x % 4294967296) (y / 4294967296) 4294967295 (by omega) (by omega) (by omega) (by omega)
  have b4 := mul_bd (x % 4294967296) (y % 4294967296) 4294967295 (by omega) (by omega) (by omega) (by omega)
  generalize (x / 4294967296) * (y / 4294967296) = p at *
  generalize (x / 4294967296) * (y % 4294967296) = q at *
  generalize (x % 4294967296) * (y / 4294967296) = r at *
  generalize (x % 4294967296) * (y % 4294967296) = s at *
  clear a3 hx hx' hy hy'
  omega

theorem mul64_any (x y : Int) (hx : 0 ≤ x) (hx' : x < 18446744073709551616) (hy : 0 ≤ y) (hy' : y < 18446744073709551616) (w : World) :
    Calls Try.prog 16 #[.int .u64 x, .int .u64 y] w fun e w' => e = .returned (.tuple #[.int .u64 (hiW (x * y)), .int .u64 (loW (x * y))]) ∧ w' = w := by
  go_enter Try.func16, Try.ntmps16
  go_wp2
  go_ret2
  exact ⟨ret2 (mul_raw x y hx hx' hy hy') (IntKind.wrap_u64 _), rfl⟩

theorem add_carry {A B ah al bh bl : Int} (h1 : ah = hiW A) (h2 : al = loW A) (h3 : bh = hiW B) (h4 : bl = loW B) (h : IntKind.u64.wrap (al + bl) < al) :
    IntKind.u64.wrap (IntKind.u64.wrap (ah + bh) + 1) = hiW (A + B) := by
  subst h1 h2 h3 h4; simp only [IntKind.wrap_u64] at *; unfold hiW loW at *; omega
theorem add_plain {A B ah al bh bl : Int} (h1 : ah = hiW A) (h2 : al = loW A) (h3 : bh = hiW B) (h4 : bl = loW B) (h : al ≤ IntKind.u64.wrap (al + bl)) :
    IntKind.u64.wrap (ah + bh) = hiW (A + B) := by
  subst h1 h2 h3 h4; simp only [IntKind.wrap_u64] at *; unfold hiW loW at *; omega
theorem add_low {A B al bl : Int} (h2 : al = loW A) (h4 : bl = loW B) : IntKind.u64.wrap (al + bl) = loW (A + B) := by
  subst h2 h4; simp only [IntKind.wrap_u64] at *; unfold loW at *; omega

theorem add128_any (A B : Int) {ah al bh bl : Int} (h1 : ah = hiW A) (h2 : al = loW A) (h3 : bh = hiW B) (h4 : bl = loW B) (w : World) :
    Calls Try.prog 11 #[.int .u64 ah, .int .u64 al, .int .u64 bh, .int .u64 bl] w fun e w' => e = .returned (.tuple #[.int .u64 (hiW (A + B)), .int .u64 (loW (A + B))]) ∧ w' = w := by
  have H1 : Hid (ah = hiW A) := h1
  have H2 : Hid (al = loW A) := h2
  have H3 : Hid (bh = hiW B) := h3
  have H4 : Hid (bl = loW B) := h4
  clear h1 h2 h3 h4
  by_cases c : IntKind.u64.wrap (al + bl) < al
  · go_enter Try.func11, Try.ntmps11
    go_wp2
    go_ret2
    exact ⟨ret2 (add_carry H1.out H2.out H3.out H4.out c) (add_low H2.out H4.out), rfl⟩
  · have c' : al ≤ IntKind.u64.wrap (al + bl) := by omega
    go_enter Try.func11, Try.ntmps11
    go_wp2
    go_ret2
    exact ⟨ret2 (add_plain H1.out H2.out H3.out H4.out c') (add_low H2.out H4.out), rfl⟩

theorem not_u64 (x : Int) (hx : 0 ≤ x) (hx' : x < 18446744073709551616) : bits .xor .u64 18446744073709551615 x = 18446744073709551615 - x := by
  show IntKind.u64.wrap ((BitVec.ofInt 64 18446744073709551615 ^^^ BitVec.ofInt 64 x).toNat : Int) = _
  have e : BitVec.ofInt 64 18446744073709551615 = BitVec.allOnes 64 := by decide
  rw [e, BitVec.allOnes_xor, BitVec.toNat_not, BitVec.toNat_ofInt, IntKind.wrap_u64]
  omega
theorem cpl_u64 (x : Int) (hx : 0 ≤ x) (hx' : x < 18446744073709551616) : bits .xor .u64 (if IntKind.u64.signed = true then -1 else IntKind.u64.max) x = 18446744073709551615 - x := by
  have e : (if IntKind.u64.signed = true then -1 else IntKind.u64.max) = 18446744073709551615 := by decide
  rw [e]; exact not_u64 x hx hx'
theorem not_i64 (x : Int) (hx : -9223372036854775808 ≤ x) (hx' : x ≤ 9223372036854775807) : bits .xor .i64 (-1) x = -x - 1 := by
  show IntKind.i64.wrap ((BitVec.ofInt 64 (-1) ^^^ BitVec.ofInt 64 x).toNat : Int) = _
  have e : BitVec.ofInt 64 (-1) = BitVec.allOnes 64 := by decide
  rw [e, BitVec.allOnes_xor, BitVec.toNat_not, BitVec.toNat_ofInt]
  simp [IntKind.wrap, IntKind.bits, IntKind.signed]
  omega
theorem cpl_i64 (x : Int) (hx : -9223372036854775808 ≤ x) (hx' : x ≤ 9223372036854775807) : bits .xor .i64 (if IntKind.i64.signed = true then -1 else IntKind.i64.max) x = -x - 1 := by
  have e : (if IntKind.i64.signed = true then -1 else IntKind.i64.max) = -1 := by decide
  rw [e]; exact not_i64 x hx hx'
theorem mul64_of (x y : Int) {x' y' : Int} (ex : x' = x) (ey : y' = y) (hx : 0 ≤ x) (hx' : x < 18446744073709551616) (hy : 0 ≤ y) (hy' : y < 18446744073709551616) (w : World) :
    Calls Try.prog 16 #[.int .u64 x', .int .u64 y'] w fun e w' => e = .returned (.tuple #[.int .u64 (hiW (x * y)), .int .u64 (loW (x * y))]) ∧ w' = w := by
  subst ex ey; exact mul64_any _ _ hx hx' hy hy' w
theorem neg_wrap (q : Int) (h1 : -9223372036854775808 ≤ q) (h2 : q < 0) : IntKind.u64.wrap (-IntKind.u64.wrap q) = -q := by simp only [IntKind.wrap_u64]; omega
theorem neg_lo {N M : Int} (e : M = -N) : IntKind.u64.wrap (bits BinOp.xor IntKind.u64 (if IntKind.u64.signed = true then -1 else IntKind.u64.max) (loW N) + 1) = loW M := by
  rw [cpl_u64 _ (loW_bd N).1 (loW_bd N).2, IntKind.wrap_u64]; unfold loW; omega
theorem neg_hi0 {N M : Int} (e : M = -N) (h : (IntKind.u64.wrap (bits BinOp.xor IntKind.u64 (if IntKind.u64.signed = true then -1 else IntKind.u64.max) (loW N) + 1) == 0) = true) :
    IntKind.u64.wrap (bits BinOp.xor IntKind.u64 (if IntKind.u64.signed = true then -1 else IntKind.u64.max) (hiW N) + 1) = hiW M := by
  rw [neg_lo e] at h
  rw [cpl_u64 _ (hiW_bd N).1 (hiW_bd N).2, IntKind.wrap_u64]
  have h' : loW M = 0 := by simpa using h
  unfold hiW loW at *; omega
theorem neg_hi1 {N M : Int} (e : M = -N) (h : (IntKind.u64.wrap (bits BinOp.xor IntKind.u64 (if IntKind.u64.signed = true then -1 else IntKind.u64.max) (loW N) + 1) == 0) = false) :
    bits BinOp.xor IntKind.u64 (if IntKind.u64.signed = true then -1 else IntKind.u64.max) (hiW N) = hiW M := by
  rw [neg_lo e] at h
  rw [cpl_u64 _ (hiW_bd N).1 (hiW_bd N).2]
  have h' : loW M ≠ 0 := by simpa using h
  unfold hiW loW at *; omega
theorem mulS_neg (q d : Int) (h1 : -9223372036854775808 ≤ q) (h2 : q < 0) (hd : 0 ≤ d) (hd' : d < 18446744073709551616) (w : World) :
    Calls Try.prog 10 #[.int .i64 q, .int .u64 d] w fun e w' => e = .returned (.tuple #[.int .u64 (hiW (q * d)), .int .u64 (loW (q * d))]) ∧ w' = w := by
  have E : Hid (q * d = -(-q * d)) := by show q * d = _; rw [Int.neg_mul, Int.neg_neg]
  go_enter Try.func10, Try.ntmps10
  go_wp2_with fail
  refine (mul64_of (-q) d (neg_wrap q h1 h2) rfl (by omega) (by omega) hd hd' _).mono ?_
  rintro e w' ⟨rfl, rfl⟩
  go_wp2_with fail
  · go_ret2
    exact ⟨ret2 (neg_hi0 E.out ‹_›) (neg_lo E.out), rfl⟩
  · go_ret2
    exact ⟨ret2 (neg_hi1 E.out ‹_›) (neg_lo E.out), rfl⟩
theorem mulS_pos (q d : Int) (h1 : 0 ≤ q) (h2 : q ≤ 9223372036854775807) (hd : 0 ≤ d) (hd' : d < 18446744073709551616) (w : World) :
    Calls Try.prog 10 #[.int .i64 q, .int .u64 d] w fun e w' => e = .returned (.tuple #[.int .u64 (hiW (q * d)), .int .u64 (loW (q * d))]) ∧ w' = w := by
  go_enter Try.func10, Try.ntmps10
  go_wp2_with fail
  refine (mul64_any q d h1 (by omega) hd hd' _).mono ?_
  rintro e w' ⟨rfl, rfl⟩
  go_wp2_with fail
  go_ret2
  exact ⟨rfl, rfl⟩
theorem mulS_any (q d : Int) (h1 : -9223372036854775808 ≤ q) (h2 : q ≤ 9223372036854775807) (hd : 0 ≤ d) (hd' : d < 18446744073709551616) (w : World) :
    Calls Try.prog 10 #[.int .i64 q, .int .u64 d] w fun e w' => e = .returned (.tuple #[.int .u64 (hiW (q * d)), .int .u64 (loW (q * d))]) ∧ w' = w := by
  by_cases c : q < 0
  · exact mulS_neg q d h1 c hd hd' w
  · exact mulS_pos q d (by omega) h2 hd hd' w
/-- zzSpanVal: V is the exact value. -/
theorem spanVal_any (V ns fr den : Int) (hV : V = ns * den + fr) (h1 : 0 ≤ ns) (h2 : ns ≤ 9223372036854775807) (h3 : 0 ≤ fr) (h4 : fr < 18446744073709551616) (h5 : 0 ≤ den) (h6 : den < 18446744073709551616) (w : World) :
    Calls Try.prog 13 #[.int .i64 ns, .int .u64 fr, .int .u64 den] w fun e w' => e = .returned (.tuple #[.int .u64 (hiW V), .int .u64 (loW V)]) ∧ w' = w := by
  subst hV
  go_enter Try.func13, Try.ntmps13
  go_wp2_with fail
  refine (mul64_any ns den h1 (by omega) h5 h6 _).mono ?_
  rintro e w' ⟨rfl, rfl⟩
  go_wp2_with fail
  refine (add128_any (ns * den) fr rfl rfl (hiW_small fr h3 h4).symm (loW_small fr h3 h4).symm _).mono ?_
  rintro e w' ⟨rfl, rfl⟩
  go_wp2_with fail
  go_ret2
  exact ⟨rfl, rfl⟩
/-- zzLE128, over numbers that fit 128 bits. -/
theorem le_hi {A B : Int} (a0 : 0 ≤ A) (a1 : A < 340282366920938463463374607431768211456) (b0 : 0 ≤ B) (b1 : B < 340282366920938463463374607431768211456) (h : ¬ hiW A = hiW B) : decide (hiW A < hiW B) = decide (A ≤ B) := by
  unfold hiW at *; rw [decide_eq_decide]; omega
theorem le_lo {A B : Int} (a0 : 0 ≤ A) (a1 : A < 340282366920938463463374607431768211456) (b0 : 0 ≤ B) (b1 : B < 340282366920938463463374607431768211456) (h : hiW A = hiW B) : decide (loW A ≤ loW B) = decide (A ≤ B) := by
  unfold hiW loW at *; rw [decide_eq_decide]; omega
theorem retB {a b : Bool} (h : a = b) : Ending.returned (.bool a) = .returned (.bool b) := by rw [h]
theorem le128_any (A B : Int) (a0 : 0 ≤ A) (a1 : A < 340282366920938463463374607431768211456) (b0 : 0 ≤ B) (b1 : B < 340282366920938463463374607431768211456) (w : World) :
    Calls Try.prog 15 #[.int .u64 (hiW A), .int .u64 (loW A), .int .u64 (hiW B), .int .u64 (loW B)] w fun e w' => e = .returned (.bool (decide (A ≤ B))) ∧ w' = w := by
  by_cases c : hiW A = hiW B
  · have c' : (hiW A != hiW B) = false := by simp [c]
    have E : Hid (decide (loW A ≤ loW B) = decide (A ≤ B)) := le_lo a0 a1 b0 b1 c
    clear c a0 a1 b0 b1
    go_enter Try.func15, Try.ntmps15
    go_wp2
    go_ret
    exact ⟨retB E.out, rfl⟩
  · have c' : (hiW A != hiW B) = true := by simp [c]
    have E : Hid (decide (hiW A < hiW B) = decide (A ≤ B)) := le_hi a0 a1 b0 b1 c
    clear c a0 a1 b0 b1
    go_enter Try.func15, Try.ntmps15
    go_wp2
    go_ret
    exact ⟨retB E.out, rfl⟩
/-- zzAdd128, the sum under a name of its own. -/
theorem add128_sum (A B S : Int) {ah al bh bl : Int} (hS : A + B = S) (h1 : ah = hiW A) (h2 : al = loW A) (h3 : bh = hiW B) (h4 : bl = loW B) (w : World) :
    Calls Try.prog 11 #[.int .u64 ah, .int .u64 al, .int .u64 bh, .int .u64 bl] w fun e w' => e = .returned (.tuple #[.int .u64 (hiW S), .int .u64 (loW S)]) ∧ w' = w := by
  subst hS; exact add128_any A B h1 h2 h3 h4 w
end Go.Proofs.Qxb6617171a
