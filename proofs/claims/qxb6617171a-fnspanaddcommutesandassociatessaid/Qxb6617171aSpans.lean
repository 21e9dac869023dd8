/- THE WALKS OF THE SPANS: (Span).add, (Span).sub, ZZSpanAdd, ZZSpanSub. The answer is told by linear cases, under names of its own (sN, sF). -/
import Derived.Test.Qxb6617171aRows
import Derived.Test.Qxb6617171aSpanPlain
import Derived.WalkKit
import Derived.WalkSpells
import Derived.RowKit3
namespace Go.Proofs.Qxb6617171a
open Go.RowKit

/-! ### THE WORLD BEHIND A CALL: new blocks, nothing old turned -/
def Kept (w w' : World) : Prop := Grown w w' ∧ Below w.heap.size w w'
theorem Kept.refl (w : World) : Kept w w := ⟨Grown.refl _, Below.refl _ _⟩
theorem Kept.alloc {w w' : World} (h : Kept w w') (c : Array Value) (t : TypeId) : Kept w (w'.alloc (.cells c t)) := ⟨h.1.alloc c t, h.2.alloc h.2.size _⟩
theorem Kept.cell {w w' : World} (h : Kept w w') : ∀ b o, b < w.heap.size → w'.cell? ⟨b, o, none⟩ = w.cell? ⟨b, o, none⟩ := fun b o hb => h.2.cell (p := ⟨b, o, none⟩) hb
theorem Kept.trans {a b c : World} (h : Kept a b) (h' : Kept b c) : Kept a c :=
  ⟨⟨World.keptBut_trans h.1.1 h'.1.1, fun x => (h'.1.2.1 x).trans (h.1.2.1 x), Nat.le_trans h.1.2.2 h'.1.2.2⟩, h.2.trans (h'.2.mono h.2.size)⟩

/-- A span lies at block b. -/
def At (w : World) (b : Nat) (x y : Value) : Prop := w.cell? ⟨b, 0, none⟩ = some x ∧ w.cell? ⟨b, 1, none⟩ = some y ∧ b < w.heap.size
theorem At.kept {W w1 : World} {b : Nat} {x y : Value} (h : At W b x y) (k : Kept W w1) : At w1 b x y :=
  ⟨(k.cell b 0 h.2.2).trans h.1, (k.cell b 1 h.2.2).trans h.2.1, Nat.lt_of_lt_of_le h.2.2 k.1.2.2⟩
theorem At.old {W : World} {b : Nat} {x y : Value} (h : At W b x y) (o : Obj) : At (W.alloc o) b x y :=
  ⟨(World.cell?_alloc_past o b 0 h.2.2).trans h.1, (World.cell?_alloc_past o b 1 h.2.2).trans h.2.1, Nat.lt_of_lt_of_le h.2.2 (by simp)⟩
theorem At.new (W : World) (b : Nat) (x y : Value) (t : TypeId) (hb : b = W.heap.size) : At (W.alloc (.cells #[x, y] t)) b x y := by
  subst hb
  exact ⟨by simp, by simp, by simp⟩

theorem span_add_any (aN aF bN bF den sN sF : Int) (h1 : 0 ≤ aN) (h2 : 0 ≤ bN) (h3 : sN ≤ 9223372036854775807) (h4 : 0 ≤ aF) (h5 : aF < den) (h6 : 0 ≤ bF) (h7 : bF < den) (h8 : den ≤ 9223372036854775808)
   (hs : IsAdd aN aF bN bF den sN sF) (w : World) :
    Calls Try.prog 17 #[.agg #[.int .i64 aN, .int .u64 aF], .agg #[.int .i64 bN, .int .u64 bF], .int .u64 den] w fun e w' => e = .returned (.agg #[.int .i64 sN, .int .u64 sF]) ∧ ∃ c1 c2 c3 c4 : Array Value, w' = (((w.alloc (.cells c1 30)).alloc (.cells c2 30)).alloc (.cells c3 30)).alloc (.cells c4 30) := by
  rcases hs with ⟨c, rfl, rfl⟩ | ⟨c, rfl, rfl⟩
  · go_enter Try.func17, Try.ntmps17
    go_wp2
    simp [bodyPost, results, Try.results17, go_sem]
    exact ⟨_, _, _, _, rfl⟩
  · go_enter Try.func17, Try.ntmps17
    go_wp2
    simp [bodyPost, results, Try.results17, go_sem]
    exact ⟨_, _, _, _, rfl⟩
theorem span_sub_any (aN aF bN bF den sN sF : Int) (h1 : 0 ≤ aN) (h1' : aN ≤ 9223372036854775807) (h2 : 0 ≤ bN) (h2' : bN ≤ 9223372036854775807) (h4 : 0 ≤ aF) (h5 : aF < den) (h6 : 0 ≤ bF) (h7 : bF < den) (h8 : den ≤ 9223372036854775808)
   (hs : IsSub aN aF bN bF den sN sF) (hN : 0 ≤ sN) (w : World) :
    Calls Try.prog 18 #[.agg #[.int .i64 aN, .int .u64 aF], .agg #[.int .i64 bN, .int .u64 bF], .int .u64 den] w fun e w' => e = .returned (.agg #[.int .i64 sN, .int .u64 sF]) ∧ ∃ c1 c2 c3 c4 : Array Value, w' = (((w.alloc (.cells c1 30)).alloc (.cells c2 30)).alloc (.cells c3 30)).alloc (.cells c4 30) := by
  rcases hs with ⟨c, rfl, rfl⟩ | ⟨c, rfl, rfl⟩
  · go_enter Try.func18, Try.ntmps18
    go_wp2
    simp [bodyPost, results, Try.results18, go_sem]
    exact ⟨_, _, _, _, rfl⟩
  · go_enter Try.func18, Try.ntmps18
    go_wp2
    simp [bodyPost, results, Try.results18, go_sem]
    exact ⟨_, _, _, _, rfl⟩
theorem zzAdd_any (aN aF bN bF den sN sF : Int) (h1 : 0 ≤ aN) (h2 : 0 ≤ bN) (h3 : sN ≤ 9223372036854775807) (h4 : 0 ≤ aF) (h5 : aF < den) (h6 : 0 ≤ bF) (h7 : bF < den) (h8 : den ≤ 9223372036854775808)
    (hs : IsAdd aN aF bN bF den sN sF) (w : World) :
    Calls Try.prog 12 #[.agg #[.int .i64 aN, .int .u64 aF], .agg #[.int .i64 bN, .int .u64 bF], .int .u64 den] w fun e w' => e = .returned (.agg #[.int .i64 sN, .int .u64 sF]) ∧ Kept w w' := by
  have HS : Hid (IsAdd aN aF bN bF den sN sF) := hs
  clear hs
  go_enter Try.func12, Try.ntmps12
  go_wp2_with fail
  refine (span_add_any aN aF bN bF den sN sF h1 h2 h3 h4 h5 h6 h7 h8 HS.out _).mono ?_
  rintro e w' ⟨rfl, c1, c2, c3, c4, rfl⟩
  go_wp2_with fail
  simp [bodyPost, results, Try.results12, go_sem]
  exact (((((((Kept.refl _).alloc _ _).alloc _ _).alloc _ _).alloc _ _).alloc _ _).alloc _ _).alloc _ _
theorem zzSub_any (aN aF bN bF den sN sF : Int) (h1 : 0 ≤ aN) (h1' : aN ≤ 9223372036854775807) (h2 : 0 ≤ bN) (h2' : bN ≤ 9223372036854775807) (h4 : 0 ≤ aF) (h5 : aF < den) (h6 : 0 ≤ bF) (h7 : bF < den) (h8 : den ≤ 9223372036854775808)
    (hs : IsSub aN aF bN bF den sN sF) (hN : 0 ≤ sN) (w : World) :
    Calls Try.prog 14 #[.agg #[.int .i64 aN, .int .u64 aF], .agg #[.int .i64 bN, .int .u64 bF], .int .u64 den] w fun e w' => e = .returned (.agg #[.int .i64 sN, .int .u64 sF]) ∧ Kept w w' := by
  have HS : Hid (IsSub aN aF bN bF den sN sF) := hs
  clear hs
  go_enter Try.func14, Try.ntmps14
  go_wp2_with fail
  refine (span_sub_any aN aF bN bF den sN sF h1 h1' h2 h2' h4 h5 h6 h7 h8 HS.out hN _).mono ?_
  rintro e w' ⟨rfl, c1, c2, c3, c4, rfl⟩
  go_wp2_with fail
  simp [bodyPost, results, Try.results14, go_sem]
  exact (((((((Kept.refl _).alloc _ _).alloc _ _).alloc _ _).alloc _ _).alloc _ _).alloc _ _).alloc _ _
end Go.Proofs.Qxb6617171a
