/-
  WHAT A DECODED RUNE SAYS OF THE BYTES THAT IT TAKES: a byte below 128 stands for itself; a byte from 128 on opens a rune from 128 on, and all bytes that it takes are from 128 on.
-/
import GoSem.Core.Utf8
namespace Go.Proofs.Qxb6606029aDoor.Sw

theorem dec_ascii (s : ByteArray) (i : Nat) (h : (s.get! i).toNat < 128) : Utf8.decode s i = ((s.get! i).toNat, 1) := by
  unfold Utf8.decode
  simp only [Nat.add_zero]
  rw [if_pos h]

theorem dec_high (s : ByteArray) (i : Nat) (hi : i < s.size) (h : 128 ≤ (s.get! i).toNat) :
    128 ≤ (Utf8.decode s i).1 ∧ i + (Utf8.decode s i).2 ≤ s.size ∧ 1 ≤ (Utf8.decode s i).2 ∧ ∀ k, k < (Utf8.decode s i).2 → 128 ≤ (s.get! (i + k)).toNat := by
  unfold Utf8.decode Utf8.runeError
  simp only [Nat.add_zero]
  rw [if_neg (by omega)]
  have one : 128 ≤ (65533, 1).1 ∧ i + (65533, 1).2 ≤ s.size ∧ 1 ≤ (65533, 1).2 ∧ ∀ k, k < (65533, 1).2 → 128 ≤ (s.get! (i + k)).toNat :=
    ⟨by decide, by simp; omega, by decide, fun k hk => by
      have : k = 0 := by simp at hk; exact hk
      subst this; exact h⟩
  split
  · rename_i h2
    simp only [Bool.and_eq_true, beq_iff_eq, decide_eq_true_eq] at h2
    split
    · rename_i h3
      refine ⟨h3, by simp; omega, by simp, fun k hk => ?_⟩
      simp only at hk
      rcases (show k = 0 ∨ k = 1 by omega) with rfl | rfl
      · exact h
      · omega
    · exact one
  · split
    · rename_i h2
      simp only [Bool.and_eq_true, beq_iff_eq, decide_eq_true_eq] at h2
      split
      · rename_i h3
        simp only [Bool.and_eq_true, decide_eq_true_eq] at h3
        refine ⟨by simp only; omega, by simp; omega, by simp, fun k hk => ?_⟩
        simp only at hk
        rcases (show k = 0 ∨ k = 1 ∨ k = 2 by omega) with rfl | rfl | rfl
        · exact h
        · omega
        · omega
      · exact one
    · split
      · rename_i h2
        simp only [Bool.and_eq_true, beq_iff_eq, decide_eq_true_eq] at h2
        split
        · rename_i h3
          simp only [Bool.and_eq_true, decide_eq_true_eq] at h3
          refine ⟨by simp only; omega, by simp; omega, by simp, fun k hk => ?_⟩
          simp only at hk
          rcases (show k = 0 ∨ k = 1 ∨ k = 2 ∨ k = 3 by omega) with rfl | rfl | rfl | rfl
          · exact h
          · omega
          · omega
          · omega
        · exact one
      · exact one

end Go.Proofs.Qxb6606029aDoor.Sw
