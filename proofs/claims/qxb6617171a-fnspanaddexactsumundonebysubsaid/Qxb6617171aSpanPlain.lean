/- THE PLAIN LAWS OF THE SPANS: no Go in sight. -/
namespace Go.Proofs.Qxb6617171a
/-- s is the normalised span of a + b. -/
def IsAdd (aN aF bN bF den sN sF : Int) : Prop := (den ≤ aF + bF ∧ sN = aN + bN + 1 ∧ sF = aF + bF - den) ∨ (aF + bF < den ∧ sN = aN + bN ∧ sF = aF + bF)
/-- s is the normalised span of a - b. -/
def IsSub (aN aF bN bF den sN sF : Int) : Prop := (aF < bF ∧ sN = aN - bN - 1 ∧ sF = aF + den - bF) ∨ (bF ≤ aF ∧ sN = aN - bN ∧ sF = aF - bF)

theorem isAdd_ex (aN aF bN bF den : Int) (h4 : 0 ≤ aF) (h5 : aF < den) (h6 : 0 ≤ bF) (h7 : bF < den) :
    ∃ sN sF, IsAdd aN aF bN bF den sN sF ∧ 0 ≤ sF ∧ sF < den ∧ aN + bN ≤ sN ∧ sN ≤ aN + bN + 1 := by
  unfold IsAdd
  by_cases c : den ≤ aF + bF
  · exact ⟨aN + bN + 1, aF + bF - den, .inl ⟨c, rfl, rfl⟩, by omega, by omega, by omega, by omega⟩
  · exact ⟨aN + bN, aF + bF, .inr ⟨by omega, rfl, rfl⟩, by omega, by omega, by omega, by omega⟩
theorem isAdd_comm {aN aF bN bF den sN sF : Int} (h : IsAdd aN aF bN bF den sN sF) : IsAdd bN bF aN aF den sN sF := by
  unfold IsAdd at *; omega
theorem isAdd_assoc {aN aF bN bF cN cF den sN sF tN tF lN lF : Int} (h4 : 0 ≤ aF) (h5 : aF < den) (h6 : 0 ≤ bF) (h7 : bF < den) (h8 : 0 ≤ cF) (h9 : cF < den)
    (h1 : IsAdd aN aF bN bF den sN sF) (h2 : IsAdd sN sF cN cF den lN lF) (h3 : IsAdd bN bF cN cF den tN tF) : IsAdd aN aF tN tF den lN lF := by
  unfold IsAdd at *; omega
theorem isAdd_val {aN aF bN bF den sN sF A B : Int} (h : IsAdd aN aF bN bF den sN sF) (hA : A = aN * den + aF) (hB : B = bN * den + bF) : A + B = sN * den + sF := by
  unfold IsAdd at h
  rcases h with ⟨_, rfl, rfl⟩ | ⟨_, rfl, rfl⟩
  · rw [Int.add_mul, Int.add_mul]; omega
  · rw [Int.add_mul]; omega
theorem isSub_ex (aN aF bN bF den : Int) (h4 : 0 ≤ aF) (h5 : aF < den) (h6 : 0 ≤ bF) (h7 : bF < den) :
    ∃ sN sF, IsSub aN aF bN bF den sN sF ∧ 0 ≤ sF ∧ sF < den := by
  unfold IsSub
  by_cases c : aF < bF
  · exact ⟨aN - bN - 1, aF + den - bF, .inl ⟨c, rfl, rfl⟩, by omega, by omega⟩
  · exact ⟨aN - bN, aF - bF, .inr ⟨by omega, rfl, rfl⟩, by omega, by omega⟩
/-- Sub undoes add, and the other way round. -/
theorem isSub_of_add {aN aF bN bF den sN sF : Int} (h4 : 0 ≤ aF) (h5 : aF < den) (h : IsAdd aN aF bN bF den sN sF) : IsSub sN sF bN bF den aN aF := by
  unfold IsAdd at h; unfold IsSub; omega
theorem isAdd_of_sub {aN aF bN bF den sN sF : Int} (h4 : 0 ≤ aF) (h5 : aF < den) (h : IsSub aN aF bN bF den sN sF) : IsAdd sN sF bN bF den aN aF := by
  unfold IsSub at h; unfold IsAdd; omega
/-- a - b - c = a - (b + c). -/
theorem isSub_steps {aN aF bN bF cN cF den xN xF lN lF tN tF : Int} (h4 : 0 ≤ aF) (h5 : aF < den) (h6 : 0 ≤ bF) (h7 : bF < den) (h8 : 0 ≤ cF) (h9 : cF < den)
    (h1 : IsSub aN aF bN bF den xN xF) (h2 : IsSub xN xF cN cF den lN lF) (h3 : IsAdd bN bF cN cF den tN tF) : IsSub aN aF tN tF den lN lF := by
  unfold IsSub IsAdd at *; omega
/-- The order of the exact values is the order of the spans. -/
theorem val_le {aN aF bN bF den : Int} (h4 : 0 ≤ aF) (h5 : aF < den) (h7 : bF < den) (h : aN * den + aF ≤ bN * den + bF) : aN ≤ bN := by
  by_cases c : aN ≤ bN
  · exact c
  · have e : (bN + 1) * den ≤ aN * den := Int.mul_le_mul_of_nonneg_right (by omega) (by omega)
    rw [Int.add_mul] at e
    omega
theorem val_nonneg (aN aF den : Int) (h1 : 0 ≤ aN) (h2 : 0 ≤ aF) (h3 : 0 ≤ den) : 0 ≤ aN * den + aF := by
  have := Int.mul_nonneg h1 h3; omega
theorem val_bd (aN aF den : Int) (h2 : aN ≤ 9223372036854775807) (h3 : aF < den) (h4 : 0 ≤ den) (h5 : den ≤ 9223372036854775808) : aN * den + aF < 85070591730234615865843651857942052864 := by
  have e : aN * den ≤ 9223372036854775807 * 9223372036854775808 := Int.mul_le_mul h2 h5 h4 (by omega)
  omega
end Go.Proofs.Qxb6617171a
