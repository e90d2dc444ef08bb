/-
  AppendEscape and Escape, each by its contract.
-/
import Derived.Test.Qxb6600464aDoorSmall
namespace Go.Proofs.Qxb6600464aDoor
open Go.RowKit Sw

theorem esc1_two (c : UInt8) (h : c.toNat = 92 ∨ c.toNat = 39) : esc1 c = [92, c] := by
  have : c = 92 ∨ c = 39 := by
    rcases h with h | h
    · exact .inl (UInt8.toNat_inj.1 h)
    · exact .inr (UInt8.toNat_inj.1 h)
  unfold esc1
  rw [if_pos this]
theorem esc1_oct (c : UInt8) (h1 : ¬ c.toNat = 92) (h2 : ¬ c.toNat = 39) (h3 : ¬ (7 ≤ c.toNat ∧ c.toNat ≤ 13)) (h4 : c.toNat < 32 ∨ c.toNat = 127) : esc1 c = octs c := by
  unfold esc1 octs
  rw [if_neg (by rintro (rfl | rfl) <;> simp at h1 h2), if_neg (by rintro ⟨a, b⟩; exact h3 ⟨a, b⟩), if_pos]
  unfold ctlB
  rcases h4 with h | h
  · simp [UInt8.lt_iff_toNat_lt, h]
  · have : c = 127 := UInt8.toNat_inj.1 h
    simp [this]
theorem esc1_bare (c : UInt8) (h1 : ¬ c.toNat = 92) (h2 : ¬ c.toNat = 39) (h3 : ¬ (7 ≤ c.toNat ∧ c.toNat ≤ 13)) (h4 : ¬ (c.toNat < 32 ∨ c.toNat = 127)) : esc1 c = [c] := by
  unfold esc1
  rw [if_neg (by rintro (rfl | rfl) <;> simp at h1 h2), if_neg (by rintro ⟨a, b⟩; exact h3 ⟨a, b⟩), if_neg]
  unfold ctlB
  simp only [Bool.or_eq_true, decide_eq_true_eq, beq_iff_eq, UInt8.lt_iff_toNat_lt]
  rintro (h | h)
  · exact h4 (.inl h)
  · exact h4 (.inr (by rw [h]; rfl))

def two (c : UInt8) : List UInt8 := [92, c]
def one (c : UInt8) : List UInt8 := [c]
theorem two_cells (c : UInt8) : bcs (two c) = [.int .u8 92, .int .u8 (c.toNat : Int)] := rfl
theorem one_cells (c : UInt8) : bcs (one c) = [.int .u8 (c.toNat : Int)] := rfl

set_option maxHeartbeats 1000000 in
/-- AppendEscape -/
theorem appEsc_any (B n : Nat) (v : Value) (l : List UInt8) (c : UInt8) (w : World) (hown : w.ownsRow B 5 1 v n (bcs l)) (hB : B ≤ w.heap.size) (hn : n ≤ 100000000) :
    Calls Tryd.prog 29 #[v, .int .u8 (c.toNat : Int)] w fun e w' => ∃ v', e = .returned v' ∧ w'.ownsRow B 5 1 v' (n + (esc1 c).length) (bcs (l ++ esc1 c)) ∧ Below B w w' := by
  have hc : c.toNat < 256 := c.toNat_lt
  by_cases h1 : c.toNat = 92
  · rw [esc1_two c (.inl h1)]
    have e : c = 92 := UInt8.toNat_inj.1 h1
    clear h1 hc
    subst e
    go_enter Tryd.func29, Tryd.ntmps29
    go_wp2_with (at_builtin; refine wpList_appB (P := Tryd.prog) Tryd.underlying33 Tryd.info5 w rfl _ _ rfl B v n l rfl hown hB _ (two 92) rfl 2 rfl rfl (by omega) ?_)
    intro v' w' h1 h2 h3
    go_wp2
    go_ret
    exact ⟨_, rfl, h1, h2⟩
  by_cases h2 : c.toNat = 39
  · rw [esc1_two c (.inr h2)]
    have e : c = 39 := UInt8.toNat_inj.1 h2
    clear h1 h2 hc
    subst e
    go_enter Tryd.func29, Tryd.ntmps29
    go_wp2_with (at_builtin; refine wpList_appB (P := Tryd.prog) Tryd.underlying33 Tryd.info5 w rfl _ _ rfl B v n l rfl hown hB _ (two 39) rfl 2 rfl rfl (by omega) ?_)
    intro v' w' h1 h2 h3
    go_wp2
    go_ret
    exact ⟨_, rfl, h1, h2⟩
  by_cases h3 : 7 ≤ c.toNat ∧ c.toNat ≤ 13
  · have e : c = 7 ∨ c = 8 ∨ c = 9 ∨ c = 10 ∨ c = 11 ∨ c = 12 ∨ c = 13 := by
      simp only [← UInt8.toNat_inj]
      simp
      omega
    clear h1 h2 h3 hc
    rcases e with rfl | rfl | rfl | rfl | rfl | rfl | rfl
    · rw [show esc1 7 = two 97 from rfl]
      go_enter Tryd.func29, Tryd.ntmps29
      go_wp2_with (at_builtin; refine wpList_appB (P := Tryd.prog) Tryd.underlying33 Tryd.info5 w rfl _ _ rfl B v n l rfl hown hB _ (two 97) rfl 2 rfl rfl (by omega) ?_)
      intro v' w' h1 h2 h3
      go_wp2
      go_ret
      exact ⟨_, rfl, h1, h2⟩
    · rw [show esc1 8 = two 98 from rfl]
      go_enter Tryd.func29, Tryd.ntmps29
      go_wp2_with (at_builtin; refine wpList_appB (P := Tryd.prog) Tryd.underlying33 Tryd.info5 w rfl _ _ rfl B v n l rfl hown hB _ (two 98) rfl 2 rfl rfl (by omega) ?_)
      intro v' w' h1 h2 h3
      go_wp2
      go_ret
      exact ⟨_, rfl, h1, h2⟩
    · rw [show esc1 9 = two 116 from rfl]
      go_enter Tryd.func29, Tryd.ntmps29
      go_wp2_with (at_builtin; refine wpList_appB (P := Tryd.prog) Tryd.underlying33 Tryd.info5 w rfl _ _ rfl B v n l rfl hown hB _ (two 116) rfl 2 rfl rfl (by omega) ?_)
      intro v' w' h1 h2 h3
      go_wp2
      go_ret
      exact ⟨_, rfl, h1, h2⟩
    · rw [show esc1 10 = two 110 from rfl]
      go_enter Tryd.func29, Tryd.ntmps29
      go_wp2_with (at_builtin; refine wpList_appB (P := Tryd.prog) Tryd.underlying33 Tryd.info5 w rfl _ _ rfl B v n l rfl hown hB _ (two 110) rfl 2 rfl rfl (by omega) ?_)
      intro v' w' h1 h2 h3
      go_wp2
      go_ret
      exact ⟨_, rfl, h1, h2⟩
    · rw [show esc1 11 = two 118 from rfl]
      go_enter Tryd.func29, Tryd.ntmps29
      go_wp2_with (at_builtin; refine wpList_appB (P := Tryd.prog) Tryd.underlying33 Tryd.info5 w rfl _ _ rfl B v n l rfl hown hB _ (two 118) rfl 2 rfl rfl (by omega) ?_)
      intro v' w' h1 h2 h3
      go_wp2
      go_ret
      exact ⟨_, rfl, h1, h2⟩
    · rw [show esc1 12 = two 102 from rfl]
      go_enter Tryd.func29, Tryd.ntmps29
      go_wp2_with (at_builtin; refine wpList_appB (P := Tryd.prog) Tryd.underlying33 Tryd.info5 w rfl _ _ rfl B v n l rfl hown hB _ (two 102) rfl 2 rfl rfl (by omega) ?_)
      intro v' w' h1 h2 h3
      go_wp2
      go_ret
      exact ⟨_, rfl, h1, h2⟩
    · rw [show esc1 13 = two 114 from rfl]
      go_enter Tryd.func29, Tryd.ntmps29
      go_wp2_with (at_builtin; refine wpList_appB (P := Tryd.prog) Tryd.underlying33 Tryd.info5 w rfl _ _ rfl B v n l rfl hown hB _ (two 114) rfl 2 rfl rfl (by omega) ?_)
      intro v' w' h1 h2 h3
      go_wp2
      go_ret
      exact ⟨_, rfl, h1, h2⟩
  have g1 : ((c.toNat : Int) == 92) = false := beq_eq_false_iff_ne.2 (by omega)
  have g2 : ((c.toNat : Int) == 39) = false := beq_eq_false_iff_ne.2 (by omega)
  by_cases h4 : c.toNat < 32 ∨ c.toNat = 127
  · rw [esc1_oct c h1 h2 h3 h4]
    have ct : ctlR (c.toNat : Int) = true := by
      unfold ctlR
      rcases h4 with h | h
      · have : (c.toNat : Int) < 32 := by omega
        simp [this]
      · rw [h]; rfl
    rw [octs_length]
    by_cases h7 : 7 ≤ c.toNat
    · have h13 : ¬ (c.toNat : Int) ≤ 13 := by omega
      have h7' : (7 : Int) ≤ (c.toNat : Int) := by omega
      clear h1 h2 h3 h4 h7
      go_enter Tryd.func29, Tryd.ntmps29
      go_wp2_with (first
        | (go_at_call 23; refine (control_any _ _).mono ?_; rintro e w' ⟨rfl, rfl⟩)
        | (go_at_call 35; refine (octal_any B n v l c _ hown hB hn).mono ?_; rintro e w' ⟨v', rfl, ho, hb⟩))
      go_ret
      exact ⟨_, rfl, ho, hb⟩
    · have h7' : decide ((7 : Int) ≤ (c.toNat : Int)) = false := by simp; omega
      clear h1 h2 h3 h4 h7
      go_enter Tryd.func29, Tryd.ntmps29
      go_wp2_with (first
        | (go_at_call 23; refine (control_any _ _).mono ?_; rintro e w' ⟨rfl, rfl⟩)
        | (go_at_call 35; refine (octal_any B n v l c _ hown hB hn).mono ?_; rintro e w' ⟨v', rfl, ho, hb⟩))
      go_ret
      exact ⟨_, rfl, ho, hb⟩
  · rw [esc1_bare c h1 h2 h3 h4]
    have ct : ctlR (c.toNat : Int) = false := by
      unfold ctlR
      simp
      omega
    have h7' : (7 : Int) ≤ (c.toNat : Int) := by omega
    have h13 : ¬ (c.toNat : Int) ≤ 13 := by omega
    clear h1 h2 h3 h4
    go_enter Tryd.func29, Tryd.ntmps29
    go_wp2_with (first
      | (go_at_call 23; refine (control_any _ _).mono ?_; rintro e w' ⟨rfl, rfl⟩)
      | (at_builtin; refine wpList_appB (P := Tryd.prog) Tryd.underlying33 Tryd.info5 _ rfl _ _ rfl B v n l rfl hown hB _ (one c) rfl 1 rfl rfl (by omega) ?_))
    intro v' w' h1 h2 h3
    go_wp2
    go_ret
    exact ⟨_, rfl, h1, h2⟩

theorem escape_snoc (s : ByteArray) (k : Nat) (h : k < s.size) : escape (s.data.toList.take (k + 1)) = escape (s.data.toList.take k) ++ esc1 s[k] := by
  rw [List.take_succ_eq_append_getElem (by simpa using h)]
  simp [escape]
  rfl
set_option maxHeartbeats 1000000 in
/-- Escape -/
theorem escape_any (s : ByteArray) (w : World) (hs : s.size ≤ 2000000) :
    Calls Tryd.prog 24 #[.string s] w fun e w' => e = .returned (.string ⟨(escape s.data.toList).toArray⟩) ∧ Below w.heap.size w w' := by
  obtain ⟨i0, hi, hz0, hz1, hz2⟩ := info_parts Tryd.info5
  go_enter Tryd.func24, Tryd.ntmps24
  go_wp2_with (at_make; refine wpList_make_own _ rfl _ _ 33 rfl w.heap.size 5 i0 (.int .u8 0) 1 Tryd.underlying33 hi hz0 hz1 _ _ _ s.size rfl rfl (by omega) (by rw [hz2]; omega) (by unfold maxLen; omega) (Nat.le_refl _) ?_)
  intro w1 hown1 hgrow1
  have hb1 : Below w.heap.size w w1 := (Below.refl _ _).grown hgrow1 (Nat.le_refl _) (fun k hk => by cases hk)
  clear hgrow1
  go_wp2
  go_loopw [3, 10] (fun v i wr => ∃ k : Nat, k ≤ s.size ∧ i = .int .i64 k ∧ wr.ownsRow w.heap.size 5 1 v (escape (s.data.toList.take k)).length (bcs (escape (s.data.toList.take k))) ∧ Below w.heap.size w wr) (fun _ i _ => s.size - (intOf i).toNat)
  case atStart => exact ⟨0, Nat.zero_le _, rfl, hown1, hb1⟩
  case round =>
    obtain ⟨k, hk, rfl, hown, hb⟩ := hrel
    clear hown1 hb1
    have hl1 := escape_len (s.data.toList.take k)
    have hl2 : (s.data.toList.take k).length ≤ k := List.length_take_le _ _
    have hsz := hb.size
    obtain ⟨L, HL⟩ : ∃ L, Hid (escape (s.data.toList.take k) = L) := ⟨_, rfl⟩
    rw [HL.out] at hown hl1
    by_cases hlt : k < s.size
    · have hsn := escape_snoc s k hlt
      rw [HL.out] at hsn
      have HS : Hid (escape (s.data.toList.take (k + 1)) = L ++ esc1 s[k]) := hsn
      clear hsn
      go_wp2_with (go_at_call 29; refine (appEsc_any w.heap.size L.length _ L s[k] _ hown hsz (by omega)).mono ?_; rintro e w' ⟨v', rfl, ho, hb'⟩)
      go_roundw
      case rel => exact ⟨k + 1, by omega, by go_num, by rw [HS.out, List.length_append]; exact ho, hb.trans hb'⟩
      case measure => simp [intOf]; omega
    · have e : s.data.toList.take k = s.data.toList := List.take_of_length_le (by simp; omega)
      rw [e] at HL
      have hcv := conv_row Tryd.underlying33 Tryd.underlying5 Tryd.underlying9 hown
      go_wp2
      go_ret
      rw [HL.out]
      exact ⟨rfl, hb⟩
end Go.Proofs.Qxb6600464aDoor
