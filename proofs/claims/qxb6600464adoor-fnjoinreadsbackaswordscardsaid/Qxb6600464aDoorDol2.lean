/-
  zzDollarEscape at what Escape writes for a byte; what a byte's escape looks like.
-/
import Derived.Test.Qxb6600464aDoorDol
import Derived.Test.Qxb6600464aDoorPieces
namespace Go.Proofs.Qxb6600464aDoor
open Go.RowKit Sw

theorem at_drop (s : ByteArray) (p : Nat) (c : UInt8) (r : List UInt8) (h : s.data.toList.drop p = c :: r) : ∃ hp : p < s.size, s[p] = c ∧ s.data.toList.drop (p + 1) = r := by
  have hp : p < s.data.toList.length := by
    rcases Nat.lt_or_ge p s.data.toList.length with h1 | h1
    · exact h1
    · rw [List.drop_of_length_le h1] at h; cases h
  rw [List.drop_eq_getElem_cons hp] at h
  injection h with h1 h2
  exact ⟨by simpa using hp, by rw [← h1]; rfl, h2⟩

/-- What Escape writes for a byte: the byte itself, or a backslash and more. -/
theorem esc1_kinds (c : UInt8) : (esc1 c = [c] ∧ c ≠ 92 ∧ c ≠ 39) ∨
    (esc1 c = [92, c] ∧ (c.toNat = 92 ∨ c.toNat = 39)) ∨
    (∃ x : UInt8, esc1 c = [92, x] ∧ (x.toNat, c) ∈ ([(97, 7), (98, 8), (116, 9), (110, 10), (118, 11), (102, 12), (114, 13)] : List (Nat × UInt8))) ∨
    (∃ d : Nat → Nat, esc1 c = [92, UInt8.ofNat (48 + d 0), UInt8.ofNat (48 + d 1), UInt8.ofNat (48 + d 2)] ∧ d 0 ≤ 3 ∧ d 1 ≤ 7 ∧ d 2 ≤ 7 ∧ ov d 3 = c.toNat) := by
  have hc : c.toNat < 256 := c.toNat_lt
  by_cases h1 : c.toNat = 92 ∨ c.toNat = 39
  · exact .inr (.inl ⟨esc1_two c h1, h1⟩)
  · by_cases h2 : 7 ≤ c.toNat ∧ c.toNat ≤ 13
    · refine .inr (.inr (.inl ?_))
      have e : c = 7 ∨ c = 8 ∨ c = 9 ∨ c = 10 ∨ c = 11 ∨ c = 12 ∨ c = 13 := by
        simp only [← UInt8.toNat_inj]
        simp
        omega
      rcases e with rfl | rfl | rfl | rfl | rfl | rfl | rfl
      · exact ⟨97, rfl, by decide⟩
      · exact ⟨98, rfl, by decide⟩
      · exact ⟨116, rfl, by decide⟩
      · exact ⟨110, rfl, by decide⟩
      · exact ⟨118, rfl, by decide⟩
      · exact ⟨102, rfl, by decide⟩
      · exact ⟨114, rfl, by decide⟩
    · by_cases h3 : c.toNat < 32 ∨ c.toNat = 127
      · refine .inr (.inr (.inr ⟨fun k => if k = 0 then c.toNat / 64 else if k = 1 then c.toNat / 8 % 8 else c.toNat % 8, ?_, ?_, ?_, ?_, ?_⟩))
        · rw [esc1_oct c (by omega) (by omega) h2 h3]; rfl
        · show c.toNat / 64 ≤ 3; omega
        · show c.toNat / 8 % 8 ≤ 7; omega
        · show c.toNat % 8 ≤ 7; omega
        · show ((0 * 8 + c.toNat / 64) * 8 + c.toNat / 8 % 8) * 8 + c.toNat % 8 = c.toNat; omega
      · refine .inl ⟨esc1_bare c (by omega) (by omega) h2 h3, ?_, ?_⟩
        · rintro rfl; exact h1 (.inl rfl)
        · rintro rfl; exact h1 (.inr rfl)

/-- zzDollarEscape, just behind the backslash of a byte's escape: the byte, and how much it takes. -/
theorem dollar_any (s : ByteArray) (p : Nat) (w : World) (hs : s.size ≤ 100000000) (c : UInt8) (tail : List UInt8) (hne : esc1 c ≠ [c]) (h : s.data.toList.drop p = (esc1 c).tail ++ tail) :
    Calls Tryd.prog 18 #[.string s, .int .i64 (p : Int)] w fun e w' => e = .returned (.tuple #[.int .u8 (c.toNat : Int), .int .i64 (((esc1 c).length - 1 : Nat) : Int), .bool true]) ∧ w' = w := by
  rcases esc1_kinds c with ⟨h1, _⟩ | ⟨h1, h2⟩ | ⟨x, h1, h2⟩ | ⟨d, h1, l0, l1, l2, hv⟩
  · exact absurd h1 hne
  · rw [h1] at h ⊢
    obtain ⟨hp, e1, _⟩ := at_drop s p c tail h
    have := dollar_self s p w hp (by rw [e1]; exact h2)
    rw [e1] at this
    exact this
  · rw [h1] at h ⊢
    obtain ⟨hp, e1, _⟩ := at_drop s p x tail h
    exact dollar_letter s p w hp c (by rw [e1]; exact h2)
  · rw [h1] at h ⊢
    obtain ⟨hp0, e0, r0⟩ := at_drop s p _ _ h
    obtain ⟨hp1, e1, r1⟩ := at_drop s (p + 1) _ _ r0
    obtain ⟨hp2, e2, _⟩ := at_drop s (p + 1 + 1) _ _ r1
    have u : ∀ n, n ≤ 7 → (UInt8.ofNat (48 + n)).toNat = 48 + n := fun n hn => by
      rw [UInt8.toNat_ofNat_of_lt' (by simp [UInt8.size]; omega)]
    have := dollar_octal s p w hs hp2 d l0 l1 l2 (by rw [e0, u _ (by omega)]) (by rw [e1, u _ l1]) (by rw [e2, u _ l2])
    rw [hv] at this
    exact this
end Go.Proofs.Qxb6600464aDoor
