/-
  strings.ContainsRune at the safe set and every rune; the predicate that says whether a rune wants quotes (function 21); strings.IndexFunc and ContainsFunc over the two predicates, as facts on the bytes.
-/
import Derived.Test.Qxb6600464aDoorRune
import Derived.Deep.DeepFit
namespace Go.Proofs.Qxb6600464aDoor
open Go.RowKit Sw

set_option maxRecDepth 100000 in
set_option maxHeartbeats 1000000 in
theorem indexRune_err (s : ByteArray) (w : World) (ha : ∀ pos, pos < s.size → (s.get! pos).toNat < 128) :
    Calls Tryd.prog 34 #[.string s, .int .i32 65533] w fun e w' => e = .returned (.int .i64 (-1)) ∧ Below w.heap.size w w' := by
  have HA : Hid _ := ha
  clear ha
  go_enter Tryd.func34, Tryd.ntmps34
  go_wp2_with fail
  go_loopg [] s.size (fun gf wx => ∃ pos : Nat, wx.heap[w.heap.size]? = some (.stringIter s pos) ∧ Below w.heap.size w wx ∧ s.size ≤ pos + gf)
  case atStart => exact ⟨0, World.iter_heap w s 0, (Below.refl _ w).alloc (Nat.le_refl _) _, by omega⟩
  case round =>
    obtain ⟨pos, hit, hbw, hfu⟩ := hrel
    by_cases hps : pos < s.size
    · obtain ⟨g', rfl⟩ : ∃ g', gk = g' + 1 := ⟨gk - 1, by omega⟩
      have hnx : ∀ ty, (Instr.next (.pointer (some ⟨w.heap.size, 0, none⟩)) true ty).run Tryd.prog wr = _ := fun ty => Lib.run_next_any_at wr w.heap.size s pos ty hit hps
      have hR := HA.out pos hps
      rw [dec_ascii s pos hR] at hnx
      obtain ⟨R, HR⟩ : ∃ R, (s.get! pos).toNat = R := ⟨_, rfl⟩
      rw [HR] at hnx hR
      clear HR
      have hne : ((R : Int) == 65533) = false := beq_eq_false_iff_ne.2 (by omega)
      have hit2 := Lib.iterAt_heap wr w.heap.size s pos (pos + 1) hit
      have hbw2 := Lib.below_iterAt hbw (k := w.heap.size) (Nat.le_refl _) s (pos + 1)
      obtain ⟨W, hWd⟩ : ∃ W, wr.iterAt w.heap.size s (pos + 1) = W := ⟨_, rfl⟩
      rw [hWd] at hnx hit2 hbw2
      clear hit hbw hWd
      go_wp2_with fail
      go_roundg g'
      case measure => omega
      case rel => exact ⟨pos + 1, hit2, hbw2, by omega⟩
    · have hnx : ∀ ty, (Instr.next (.pointer (some ⟨w.heap.size, 0, none⟩)) true ty).run Tryd.prog wr = _ := fun ty => Lib.run_next_end_at wr w.heap.size s pos ty hit hps
      go_wp2_with fail
      go_ret
      exact ⟨rfl, hbw⟩

theorem valid_same (r : Int) : Lib.validRune r = Utf8.valid r := by
  unfold Lib.validRune Utf8.valid
  rw [Bool.eq_iff_iff]
  simp
  omega

/-- strings.IndexRune at the safe set: a rune from 128 on is not there. -/
theorem indexRune_high (r : Int) (w : World) (h : 128 ≤ r) :
    Calls Tryd.prog 34 #[.string ⟨#[64, 37, 43, 61, 58, 44, 46, 47, 95, 45]⟩, .int .i32 r] w fun e w' => e = .returned (.int .i64 (-1)) ∧ Below w.heap.size w w' := by
  by_cases he : r = 65533
  · subst he
    exact indexRune_err _ w (by decide)
  · cases hv : Lib.validRune r with
    | false => exact indexRune_bad r w h he hv
    | true =>
      obtain ⟨n, hz, h1, h3, hl⟩ := enc_last r (by rw [← valid_same]; exact hv) h
      obtain ⟨rs, hrs⟩ : ∃ rs, Utf8.encode r = rs := ⟨_, rfl⟩
      rw [hrs] at hz hl
      have hg : ∀ k (hk : k < rs.size), (rs.get! k).toNat = rs[k].toNat := fun k hk => by
        simp [ByteArray.get!, getElem!_pos, hk]; rfl
      rw [hg n (by omega)] at hl
      rcases (show n = 1 ∨ n = 2 ∨ n = 3 by omega) with rfl | rfl | rfl
      · exact indexRune_good1 r w h he hv rs hrs hz (by omega)
      · exact indexRune_good2 r w h he hv rs hrs hz (by omega)
      · exact indexRune_good3 r w h he hv rs hrs hz (by omega)

theorem containsRune_high (r : Int) (w : World) (h : 128 ≤ r) :
    Calls Tryd.prog 28 #[.string ⟨#[64, 37, 43, 61, 58, 44, 46, 47, 95, 45]⟩, .int .i32 r] w fun e w' => e = .returned (.bool false) ∧ Below w.heap.size w w' := by
  go_enter Tryd.func28, Tryd.ntmps28
  go_wp2_with (go_at_call 34; refine (indexRune_high r w h).mono ?_; rintro e w' ⟨rfl, hb⟩)
  go_ret
  exact ⟨rfl, hb⟩

def needR (r : Nat) : Bool := if r < 128 then !safeB (UInt8.ofNat r) else true
theorem indexByte_contains (c : UInt8) : ∀ l : List UInt8, decide (0 ≤ Lib.indexByte l c) = l.contains c
  | [] => rfl
  | b :: l => by
    have ih := indexByte_contains c l
    unfold Lib.indexByte
    by_cases h : b = c
    · subst h; simp
    · have h' : (c == b) = false := by rw [beq_eq_false_iff_ne]; exact fun e => h e.symm
      simp only [List.contains_cons, h', Bool.false_or, ← ih]
      have hr : Lib.indexByte l c = -1 ∨ 0 ≤ Lib.indexByte l c := by
        have := Lib.indexByte_ge l c
        omega
      rcases hr with hr | hr
      · simp [hr, h]
      · have : ¬ Lib.indexByte l c = -1 := by omega
        simp [h, this]
        omega

theorem need_range (r : Nat) (h : (97 ≤ r ∧ r ≤ 122) ∨ (65 ≤ r ∧ r ≤ 90) ∨ (48 ≤ r ∧ r ≤ 57)) : needR r = false := by
  have : ∀ r : Nat, r < 128 → ((97 ≤ r ∧ r ≤ 122) ∨ (65 ≤ r ∧ r ≤ 90) ∨ (48 ≤ r ∧ r ≤ 57)) → needR r = false := by decide +kernel
  exact this r (by omega) h
theorem need_other (r : Nat) (hr : r < 128) (h : ¬ ((97 ≤ r ∧ r ≤ 122) ∨ (65 ≤ r ∧ r ≤ 90) ∨ (48 ≤ r ∧ r ≤ 57))) : needR r = !decide (0 ≤ Lib.indexByte [64, 37, 43, 61, 58, 44, 46, 47, 95, 45] (UInt8.ofNat r)) := by
  have : ∀ r : Nat, r < 128 → ¬ ((97 ≤ r ∧ r ≤ 122) ∨ (65 ≤ r ∧ r ≤ 90) ∨ (48 ≤ r ∧ r ≤ 57)) → needR r = !safeSet.contains (UInt8.ofNat r) := by decide +kernel
  rw [indexByte_contains]
  exact this r hr h

set_option maxHeartbeats 1000000 in
theorem need_any (r : Nat) (w : World) (hb : r ≤ 1114111) : Calls Tryd.prog 21 #[.int .i32 (r : Int)] w fun e w' => e = .returned (.bool (needR r)) ∧ Below w.heap.size w w' := by
  by_cases h1 : 97 ≤ r ∧ r ≤ 122
  · rw [need_range r (.inl h1)]
    obtain ⟨h1, h2⟩ := h1
    go_enter Tryd.func21, Tryd.ntmps21
    go_wp2
    go_ret
    exact ⟨rfl, Below.refl _ _⟩
  by_cases h2 : 65 ≤ r ∧ r ≤ 90
  · rw [need_range r (.inr (.inl h2))]
    obtain ⟨h2, h3⟩ := h2
    have d1 : decide ((97 : Int) ≤ (r : Int)) = false := by simp; omega
    clear h1
    go_enter Tryd.func21, Tryd.ntmps21
    go_wp2
    go_ret
    exact ⟨rfl, Below.refl _ _⟩
  by_cases h3 : 48 ≤ r ∧ r ≤ 57
  · rw [need_range r (.inr (.inr h3))]
    obtain ⟨h3, h4⟩ := h3
    have d1 : decide ((97 : Int) ≤ (r : Int)) = false := by simp; omega
    have d2 : decide ((65 : Int) ≤ (r : Int)) = false := by simp; omega
    clear h1 h2
    go_enter Tryd.func21, Tryd.ntmps21
    go_wp2
    go_ret
    exact ⟨rfl, Below.refl _ _⟩
  by_cases h4 : r < 128
  · rw [need_other r h4 (by omega)]
    have c28 := Tryd.strings_ContainsRune_ascii ⟨#[64, 37, 43, 61, 58, 44, 46, 47, 95, 45]⟩ (r : Int) w (by omega) (by omega)
    have e : ((r : Int).toNat.toUInt8) = UInt8.ofNat r := by simp
    rw [e] at c28
    change Calls Tryd.prog 28 _ w (fun e w' => e = .returned (.bool (decide (0 ≤ Lib.indexByte [64, 37, 43, 61, 58, 44, 46, 47, 95, 45] (UInt8.ofNat r)))) ∧ w' = w) at c28
    generalize decide (0 ≤ Lib.indexByte [64, 37, 43, 61, 58, 44, 46, 47, 95, 45] (UInt8.ofNat r)) = b at c28 ⊢
    by_cases g1 : 97 ≤ r
    · have g2 : ¬ (r : Int) ≤ 122 := by omega
      have g3 : ¬ (r : Int) ≤ 90 := by omega
      have g4 : ¬ (r : Int) ≤ 57 := by omega
      clear h1 h2 h3
      go_enter Tryd.func21, Tryd.ntmps21
      go_wp2_with (go_at_call 28; go_fit c28; rintro e w' ⟨rfl, rfl⟩)
      go_ret
      exact ⟨rfl, Below.refl _ _⟩
    · have d1 : decide ((97 : Int) ≤ (r : Int)) = false := by simp; omega
      by_cases g2 : 65 ≤ r
      · have g3 : ¬ (r : Int) ≤ 90 := by omega
        have g4 : ¬ (r : Int) ≤ 57 := by omega
        clear h1 h2 h3 g1
        go_enter Tryd.func21, Tryd.ntmps21
        go_wp2_with (go_at_call 28; go_fit c28; rintro e w' ⟨rfl, rfl⟩)
        go_ret
        exact ⟨rfl, Below.refl _ _⟩
      · have d2 : decide ((65 : Int) ≤ (r : Int)) = false := by simp; omega
        by_cases g3 : 48 ≤ r
        · have g4 : ¬ (r : Int) ≤ 57 := by omega
          clear h1 h2 h3 g1 g2
          go_enter Tryd.func21, Tryd.ntmps21
          go_wp2_with (go_at_call 28; go_fit c28; rintro e w' ⟨rfl, rfl⟩)
          go_ret
          exact ⟨rfl, Below.refl _ _⟩
        · have d3 : decide ((48 : Int) ≤ (r : Int)) = false := by simp; omega
          clear h1 h2 h3 g1 g2 g3
          go_enter Tryd.func21, Tryd.ntmps21
          go_wp2_with (go_at_call 28; go_fit c28; rintro e w' ⟨rfl, rfl⟩)
          go_ret
          exact ⟨rfl, Below.refl _ _⟩
  · have e : needR r = true := by unfold needR; rw [if_neg h4]
    rw [e]
    have g1 : (97 : Int) ≤ (r : Int) := by omega
    have g2 : ¬ (r : Int) ≤ 122 := by omega
    have g3 : ¬ (r : Int) ≤ 90 := by omega
    have g4 : ¬ (r : Int) ≤ 57 := by omega
    clear e h1 h2 h3
    go_enter Tryd.func21, Tryd.ntmps21
    go_wp2_with (go_at_call 28; refine (containsRune_high _ _ (by omega)).mono ?_; rintro e w' ⟨rfl, hb'⟩)
    go_ret
    exact ⟨rfl, hb'⟩
end Go.Proofs.Qxb6600464aDoor
