/-
  Quote, by its contract.
-/
import Derived.Test.Qxb6600464aDoorNeeds
import Derived.Test.Qxb6600464aDoorEsc
namespace Go.Proofs.Qxb6600464aDoor
open Go.RowKit Sw

theorem get!_drop (s : ByteArray) (i : Nat) (h : i < s.size) : s.data.toList.drop i = s.get! i :: s.data.toList.drop (i + 1) := by
  have h' : i < s.data.toList.length := by simpa using h
  rw [List.drop_eq_getElem_cons h']
  congr 1
  have : s.get! i = s.data[i]! := rfl
  rw [this, getElem!_pos s.data i (by simpa using h)]
  rfl

/-- No rune is as 'p' says just where no byte is as 'q' says; from 128 on both are constant. -/
theorem idx_none (p : Nat → Bool) (q : UInt8 → Bool) (b : Bool) (h1 : ∀ c : UInt8, c.toNat < 128 → p c.toNat = q c) (h2 : ∀ r, 128 ≤ r → p r = b) (h3 : ∀ c : UInt8, 128 ≤ c.toNat → q c = b) (s : ByteArray) :
    ∀ (f pos : Nat), s.size ≤ pos + f → (Lib.idxFuncFrom p true s f pos = -1 ↔ (s.data.toList.drop pos).any q = false)
  | 0, pos, hf => by
    rw [List.drop_of_length_le (by simpa using hf)]
    simp [Lib.idxFuncFrom]
  | f + 1, pos, hf => by
    unfold Lib.idxFuncFrom
    by_cases hp : pos < s.size
    · rw [if_pos hp]
      rw [get!_drop s pos hp, List.any_cons]
      by_cases hc : (s.get! pos).toNat < 128
      · rw [dec_ascii s pos hc]
        simp only
        rw [h1 _ hc]
        cases hq : q (s.get! pos) with
        | true => simp
        | false =>
          have ih := idx_none p q b h1 h2 h3 s f (pos + 1) (by omega)
          simpa using ih
      · obtain ⟨d1, d2, d3, d4⟩ := dec_high s pos hp (by omega)
        rw [h2 _ d1, h3 _ (by omega)]
        cases b with
        | true => simp
        | false =>
          have ih := idx_none p q false h1 h2 h3 s f (pos + (Utf8.decode s pos).2) (by omega)
          simp only [Bool.false_eq_true, if_false, Bool.false_or]
          rw [ih]
          -- the bytes that the rune takes are none of 'q'
          generalize (Utf8.decode s pos).2 = K at d2 d3 d4
          have : ∀ k, k < K → 1 ≤ k → (s.data.toList.drop (pos + 1)).any q = (s.data.toList.drop (pos + k)).any q := by
            intro k
            induction k with
            | zero => intro _ h; omega
            | succ k ihk =>
              intro hk _
              by_cases hk0 : k = 0
              · subst hk0; rfl
              · rw [ihk (by omega) (by omega), get!_drop s (pos + k) (by omega), List.any_cons, h3 _ (d4 k (by omega))]
                simp [Nat.add_assoc]
          by_cases hK : K = 1
          · rw [hK]
          · rw [this (K - 1) (by omega) (by omega), get!_drop s (pos + (K - 1)) (by omega), List.any_cons, h3 _ (d4 (K - 1) (by omega))]
            rw [show pos + (K - 1) + 1 = pos + K by omega]
            simp
    · rw [if_neg hp, List.drop_of_length_le (by simp; omega)]
      simp

def ctlN (r : Nat) : Bool := ctlR (r : Int)

theorem idx_need (s : ByteArray) : decide (Lib.idxFunc needR true s < 0) = s.data.toList.all safeB := by
  have h := idx_none needR (fun c => !safeB c) true (fun c hc => by unfold needR; rw [if_pos hc]; simp) (fun r hr => by unfold needR; rw [if_neg (by omega)])
    (fun c hc => by
      have : ∀ n : Nat, n < 256 → 128 ≤ n → (!safeB (UInt8.ofNat n)) = true := by decide +kernel
      have := this c.toNat c.toNat_lt hc
      simpa using this) s s.size 0 (by omega)
  rw [List.drop_zero] at h
  have hr := Lib.idxFunc_range needR true s
  change Lib.idxFunc needR true s = -1 ↔ _ at h
  rw [Bool.eq_iff_iff, decide_eq_true_eq]
  constructor
  · intro hlt
    have hm := h.1 (by omega)
    rw [List.all_eq_true]
    intro c hc
    have := List.any_eq_false.1 hm c hc
    simpa using this
  · intro ha
    have hm := h.2 (by
      rw [List.any_eq_false]
      intro c hc
      have := List.all_eq_true.1 ha c hc
      simp [this])
    omega

theorem idx_ctl (s : ByteArray) : decide (0 ≤ Lib.idxFunc ctlN true s) = s.data.toList.any ctlB := by
  have h := idx_none ctlN ctlB false (fun c hc => by
      have : ∀ n : Nat, n < 256 → ctlN n = ctlB (UInt8.ofNat n) := by decide +kernel
      have := this c.toNat c.toNat_lt
      simpa using this) (fun r hr => by unfold ctlN ctlR; simp; omega)
    (fun c hc => by
      have : ∀ n : Nat, n < 256 → 128 ≤ n → ctlB (UInt8.ofNat n) = false := by decide +kernel
      have := this c.toNat c.toNat_lt hc
      simpa using this) s s.size 0 (by omega)
  rw [List.drop_zero] at h
  have hr := Lib.idxFunc_range ctlN true s
  change Lib.idxFunc ctlN true s = -1 ↔ _ at h
  cases ha : s.data.toList.any ctlB with
  | true =>
    rw [ha] at h
    have : ¬ Lib.idxFunc ctlN true s = -1 := fun e => by have := h.1 e; simp at this
    rw [decide_eq_true_eq]
    omega
  | false =>
    have := h.2 ha
    rw [decide_eq_false_iff_not]
    omega

theorem grows_need (w : World) : PredGrows Tryd.prog 21 #[] needR w := fun W x hx _ => need_any x W hx
theorem grows_ctl (w : World) : PredGrows Tryd.prog 23 #[] ctlN w := fun W x _ _ => (control_any (x : Int) W).mono fun _ _ ⟨he, hw⟩ => ⟨he, hw ▸ Below.refl _ _⟩
theorem enters21 : ∀ args w, (callFunc 21 args).run Tryd.prog w = .ok (.enter 21 args) w := enters_of Tryd.func21 (by kernel_rfl) rfl
theorem enters23 : ∀ args w, (callFunc 23 args).run Tryd.prog w = .ok (.enter 23 args) w := enters_of Tryd.func23 (by kernel_rfl) rfl

theorem toList_ne (s : ByteArray) (h : s.data.toList ≠ []) : s.toList.isEmpty = false := by
  rw [show s.toList = s.data.toList by simp [ByteArray.toList_eq]]
  cases hl : s.data.toList with
  | nil => exact absurd hl h
  | cons a l => rfl

theorem ba_append (a b : List UInt8) : (⟨a.toArray⟩ : ByteArray) ++ ⟨b.toArray⟩ = ⟨(a ++ b).toArray⟩ := by
  apply ByteArray.ext
  simp
theorem ret_str {a b : ByteArray} (h : a = b) : Ending.returned (.string a) = .returned (.string b) := by rw [h]

set_option maxHeartbeats 1000000 in
theorem quote_any (s : ByteArray) (w : World) (hs : s.size ≤ 2000000) (m : Int) (hm : w.cell? ⟨0, 0, none⟩ = some (.int .i64 m)) :
    Calls Tryd.prog 9 #[.string s] w fun e w' => e = .returned (.string ⟨(quote s.data.toList).toArray⟩) ∧ Below w.heap.size w w' := by
  by_cases h0 : s.data.toList = []
  · have : s = ⟨#[]⟩ := by
      obtain ⟨⟨l⟩⟩ := s
      simp at h0
      subst h0
      rfl
    subst this
    go_enter Tryd.func9, Tryd.ntmps9
    go_wp2
    go_ret
    exact ⟨rfl, Below.refl _ _⟩
  · have hne := toList_ne s h0
    have c20 := Tryd.strings_IndexFunc_grows 21 #[] enters21 needR s w (grows_need w)
    have hn := idx_need s
    obtain ⟨I, hI⟩ : ∃ I, Lib.idxFunc needR true s = I := ⟨_, rfl⟩
    rw [hI] at c20 hn
    clear hI
    by_cases hsafe : s.data.toList.all safeB = true
    · have hq : quote s.data.toList = s.data.toList := by unfold quote; rw [if_neg h0, if_pos hsafe]
      rw [hq]
      rw [hsafe, decide_eq_true_eq] at hn
      clear hq hsafe h0
      go_enter Tryd.func9, Tryd.ntmps9
      go_wp2_with (go_at_call 20; go_fit c20; rintro e w1 ⟨rfl, hb1⟩)
      go_ret
      exact ⟨rfl, hb1⟩
    · have hsafe' : s.data.toList.all safeB = false := by simpa using hsafe
      rw [hsafe', decide_eq_false_iff_not] at hn
      have C22 : ∀ w1, Hid (Calls Tryd.prog 22 #[.string s, .func (.func 23) #[] #[]] w1 fun e w' => e = .returned (.bool (decide (0 ≤ Lib.idxFunc ctlN true s))) ∧ Below w1.heap.size w1 w') := fun w1 => Tryd.strings_ContainsFunc_grows 23 #[] enters23 ctlN s w1 (grows_ctl w1)
      rw [idx_ctl] at C22
      by_cases hctl : s.data.toList.any ctlB = true
      · have hq : quote s.data.toList = 36 :: 39 :: escape s.data.toList ++ [39] := by unfold quote; rw [if_neg h0, if_neg hsafe, if_pos hctl]
        have hel := escape_len s.data.toList
        have hel2 : s.data.toList.length = s.size := by simp
        rw [hctl] at C22
        rw [hq]
        clear hq hctl hsafe hsafe' h0
        obtain ⟨E, HE⟩ : ∃ E, escape s.data.toList = E := ⟨_, rfl⟩
        have cE : ∀ w1, Hid (Calls Tryd.prog 24 #[.string s] w1 fun e w' => e = .returned (.string ⟨E.toArray⟩) ∧ Below w1.heap.size w1 w') := fun w1 => by rw [← HE]; exact escape_any s w1 hs
        rw [HE] at hel ⊢
        clear HE
        go_enter Tryd.func9, Tryd.ntmps9
        go_wp2_with (first
          | (go_at_call 20; go_fit c20; rintro e w1 ⟨rfl, hb1⟩)
          | (go_at_call 22; go_fit (C22 _).out; rintro e w2 ⟨rfl, hb2⟩)
          | (go_at_call 24; go_fit (cE _).out; rintro e w3 ⟨rfl, hb3⟩))
        go_ret
        refine ⟨?_, (hb1.trans (hb2.mono hb1.size)).trans (hb3.mono (Nat.le_trans hb1.size hb2.size))⟩
        exact ret_str (by rw [show (⟨#[36, 39]⟩ : ByteArray) = ⟨[36, 39].toArray⟩ from rfl, show (⟨#[39]⟩ : ByteArray) = ⟨[39].toArray⟩ from rfl, ba_append, ba_append]; rfl)
      · have hctl' : s.data.toList.any ctlB = false := by simpa using hctl
        have hq : quote s.data.toList = 39 :: repl s.data.toList ++ [39] := by unfold quote; rw [if_neg h0, if_neg hsafe, if_neg hctl]
        have hcb := Lib.countB_le ⟨#[39]⟩ (by decide) s.size s (Nat.le_refl _)
        rw [hctl'] at C22
        rw [hq]
        clear hq hctl hctl' hsafe hsafe' h0
        have c25 : ∀ w1, w1.cell? ⟨0, 0, none⟩ = some (.int .i64 m) → Calls Tryd.prog 25 #[.string s, .string ⟨#[39]⟩, .string ⟨#[39, 34, 39, 34, 39]⟩] w1 fun e w' => e = .returned (.string ⟨(repl s.data.toList).toArray⟩) ∧ Below w1.heap.size w1 w' := fun w1 hm1 => by
          have := Tryd.strings_ReplaceAll s ⟨#[39]⟩ ⟨#[39, 34, 39, 34, 39]⟩ m w1 (by omega) hm1 (by decide) (by
            have e5 : (⟨#[39, 34, 39, 34, 39]⟩ : ByteArray).size = 5 := rfl
            rw [e5]; omega)
          change Calls Tryd.prog 25 _ w1 (fun e w' => e = .returned (.string ⟨(Lib.replaceAll s.data.toList [39] [39, 34, 39, 34, 39]).toArray⟩) ∧ _) at this
          rw [replaceAll_one] at this
          exact this
        have hrl := repl_len s.data.toList
        have hel2 : s.data.toList.length = s.size := by simp
        obtain ⟨R, HR⟩ : ∃ R, repl s.data.toList = R := ⟨_, rfl⟩
        rw [HR] at c25 hrl ⊢
        clear HR hcb
        have h0w : 0 < w.heap.size := World.block_lt_of_cell? _ _ hm
        have C25 : Hid _ := c25
        clear c25
        go_enter Tryd.func9, Tryd.ntmps9
        go_wp2_with (first
          | (go_at_call 20; go_fit c20; rintro e w1 ⟨rfl, hb1⟩)
          | (go_at_call 22; go_fit (C22 _).out; rintro e w2 ⟨rfl, hb2⟩)
          | (go_at_call 25; go_fit (C25.out _ (((hb2.mono hb1.size).cell (p := ⟨0, 0, none⟩) h0w).trans ((hb1.cell (p := ⟨0, 0, none⟩) h0w).trans hm))); rintro e w3 ⟨rfl, hb3⟩))
        go_ret
        refine ⟨?_, (hb1.trans (hb2.mono hb1.size)).trans (hb3.mono (Nat.le_trans hb1.size hb2.size))⟩
        exact ret_str (by rw [show (⟨#[39]⟩ : ByteArray) = ⟨[39].toArray⟩ from rfl, ba_append, ba_append]; rfl)

end Go.Proofs.Qxb6600464aDoor
