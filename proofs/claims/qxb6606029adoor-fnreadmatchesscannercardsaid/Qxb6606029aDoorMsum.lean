/-
  modelSum, by its contract: the numeral of the sum.
-/
import Derived.Test.Qxb6606029aDoorUtoa
namespace Go.Proofs.Qxb6606029aDoor
open Go.RowKit Go.Joins

def sg (n : Bool) (u : Nat) : Int := if n then -(u : Int) else u
theorem mag_len {u k : Nat} (h : u < 10 ^ k) : (mag u).length ≤ k := by
  rcases (mag_Mag u).cases with e | ⟨c, r, e, hc⟩
  · rw [e]
    exact Nat.zero_le _
  · have h1 := digs_mag u
    have h2 := val_mag u
    rw [e] at h1 h2 ⊢
    have h3 := val_ge h1 hc
    by_cases hl : (c :: r).length ≤ k
    · exact hl
    · have h4 : 10 ^ k ≤ 10 ^ r.length := Nat.pow_le_pow_right (by decide) (by rw [List.length_cons] at hl; omega)
      omega
theorem add_len {a b : List UInt8} (ha : digs a = true) (hb : digs b = true) (k : Nat) (h1 : a.length ≤ k) (h2 : b.length ≤ k) : (mag (val a + val b)).length ≤ k + 1 := by
  refine mag_len ?_
  have h3 := val_lt ha
  have h4 := val_lt hb
  have h5 : 10 ^ a.length ≤ 10 ^ k := Nat.pow_le_pow_right (by decide) h1
  have h6 : 10 ^ b.length ≤ 10 ^ k := Nat.pow_le_pow_right (by decide) h2
  rw [Nat.pow_succ]
  omega
theorem sub_len {a : List UInt8} (ha : digs a = true) (n : Nat) : (mag (val a - n)).length ≤ a.length := by
  refine mag_len ?_
  have h3 := val_lt ha
  omega

set_option maxHeartbeats 4000000 in
theorem msum_any (an bn : Bool) (a b : ByteArray) (w : World) (hsa : a.size ≤ 10000000) (hsb : b.size ≤ 10000000) (ha : Mag a.data.toList) (hb : Mag b.data.toList) :
    Calls Tryd.prog 12 #[.bool an, .string a, .bool bn, .string b] w fun e w' => e = .returned (.string ⟨(Lib.itoa (sg an (val a.data.toList) + sg bn (val b.data.toList))).toArray⟩) ∧ Below w.heap.size w w' := by
  have hal : a.data.toList.length ≤ 10000000 := by rw [← Lib.size_eq]; exact hsa
  have hbl : b.data.toList.length ≤ 10000000 := by rw [← Lib.size_eq]; exact hsb
  by_cases hab : an = bn
  · subst hab
    have cA := add_any a b w hsa hsb ha.1 hb.1
    have hlen := add_len ha.1 hb.1 10000000 hal hbl
    have cS := fun w => signed_any an (val a.data.toList + val b.data.toList) w (by omega)
    have hr : sg an (val a.data.toList) + sg an (val b.data.toList) = if an then -((val a.data.toList + val b.data.toList : Nat) : Int) else ((val a.data.toList + val b.data.toList : Nat) : Int) := by
      cases an <;> simp [sg] <;> omega
    rw [hr]
    clear hr hlen ha hb hal hbl
    cases an <;>
    · go_enter Tryd.func12, Tryd.ntmps12
      go_wp2_with (first | (go_at_call 23; go_fit cA; rintro e w1 ⟨rfl, hb1⟩) | (go_at_call 22; go_fit (cS _); rintro e w2 ⟨rfl, hw⟩; replace hw := hw.symm; subst hw) | fail)
      go_ret
      exact ⟨rfl, hb1⟩
  · have cC := cmp_any a b w hsa ha hb
    have hbn : bn = !an := by cases an <;> cases bn <;> simp_all
    by_cases h1 : val a.data.toList < val b.data.toList
    · rw [show cmpI (val a.data.toList) (val b.data.toList) = -1 by unfold cmpI; rw [if_pos h1]] at cC
      have hl := ha.length_le hb (by omega)
      have cM := fun w => sub_any b a w (by rw [Lib.size_eq, Lib.size_eq]; exact hl) hsb hb.1 ha.1 (by omega)
      have hlen := sub_len hb.1 (val a.data.toList)
      have cS := fun w => signed_any bn (val b.data.toList - val a.data.toList) w (by omega)
      have hr : sg an (val a.data.toList) + sg bn (val b.data.toList) = if bn then -((val b.data.toList - val a.data.toList : Nat) : Int) else ((val b.data.toList - val a.data.toList : Nat) : Int) := by
        subst hbn
        cases an <;> simp [sg] <;> omega
      rw [hr]
      clear hr hlen ha hb hal hbl hl h1
      subst hbn
      cases an <;>
      · go_enter Tryd.func12, Tryd.ntmps12
        go_wp2_with (first | (go_at_call 24; go_fit cC; rintro e w1 ⟨rfl, hb1⟩) | (go_at_call 25; go_fit (cM _); rintro e w2 ⟨rfl, hb2⟩) | (go_at_call 22; go_fit (cS _); rintro e w3 ⟨rfl, hw⟩; replace hw := hw.symm; subst hw) | fail)
        go_ret
        exact ⟨rfl, below_next hb1 hb2⟩
    · by_cases h2 : val a.data.toList = val b.data.toList
      · rw [show cmpI (val a.data.toList) (val b.data.toList) = 0 by unfold cmpI; rw [if_neg h1, if_pos h2]] at cC
        have hr : (⟨(Lib.itoa (sg an (val a.data.toList) + sg bn (val b.data.toList))).toArray⟩ : ByteArray) = ⟨#[48]⟩ := by
          have : sg an (val a.data.toList) + sg bn (val b.data.toList) = ((0 : Nat) : Int) := by
            subst hbn
            rw [h2]
            cases an <;> simp [sg] <;> omega
          rw [this, Lib.itoa_nonneg, decDigits_small (by decide)]
          rfl
        rw [hr]
        clear hr ha hb hal hbl h1 h2
        subst hbn
        cases an <;>
        · go_enter Tryd.func12, Tryd.ntmps12
          go_wp2_with (first | (go_at_call 24; go_fit cC; rintro e w1 ⟨rfl, hb1⟩) | fail)
          go_ret
          exact ⟨rfl, hb1⟩
      · rw [show cmpI (val a.data.toList) (val b.data.toList) = 1 by unfold cmpI; rw [if_neg h1, if_neg h2]] at cC
        have hl := hb.length_le ha (by omega)
        have cM := fun w => sub_any a b w (by rw [Lib.size_eq, Lib.size_eq]; exact hl) hsa ha.1 hb.1 (by omega)
        have hlen := sub_len ha.1 (val b.data.toList)
        have cS := fun w => signed_any an (val a.data.toList - val b.data.toList) w (by omega)
        have hr : sg an (val a.data.toList) + sg bn (val b.data.toList) = if an then -((val a.data.toList - val b.data.toList : Nat) : Int) else ((val a.data.toList - val b.data.toList : Nat) : Int) := by
          subst hbn
          cases an <;> simp [sg] <;> omega
        rw [hr]
        clear hr hlen ha hb hal hbl hl h1 h2
        subst hbn
        cases an <;>
        · go_enter Tryd.func12, Tryd.ntmps12
          go_wp2_with (first | (go_at_call 24; go_fit cC; rintro e w1 ⟨rfl, hb1⟩) | (go_at_call 25; go_fit (cM _); rintro e w2 ⟨rfl, hb2⟩) | (go_at_call 22; go_fit (cS _); rintro e w3 ⟨rfl, hw⟩; replace hw := hw.symm; subst hw) | fail)
          go_ret
          exact ⟨rfl, below_next hb1 hb2⟩
end Go.Proofs.Qxb6606029aDoor
