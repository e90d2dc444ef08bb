/-
  IsPlain, canonicalExponent, canonicalNumber, the bound on lengths: by their contracts.
-/
import Derived.Test.Qxb6606029aDoorDigs
namespace Go.Proofs.Qxb6606029aDoor
open Go.RowKit

/-! ### Plain -/
def whole (l : List UInt8) : List UInt8 := l.takeWhile (· != 46)
def frac (l : List UInt8) : List UInt8 := (l.dropWhile (· != 46)).drop 1
theorem whole_cons (c : UInt8) (l : List UInt8) : whole (c :: l) = if c = 46 then [] else c :: whole l := by
  unfold whole
  rw [List.takeWhile_cons]
  by_cases h : c = 46
  · subst h; simp
  · simp [h]
theorem frac_cons (c : UInt8) (l : List UInt8) : frac (c :: l) = if c = 46 then l else frac l := by
  unfold frac
  rw [List.dropWhile_cons]
  by_cases h : c = 46
  · subst h; simp
  · simp [h]
theorem cut_point : ∀ l : List UInt8, (0 ≤ Lib.indexByte l 46 → l.take (Lib.indexByte l 46).toNat = whole l ∧ l.drop ((Lib.indexByte l 46).toNat + 1) = frac l) ∧ (¬ 0 ≤ Lib.indexByte l 46 → l = whole l ∧ [] = frac l)
  | [] => ⟨fun h => absurd h (by decide), fun _ => ⟨rfl, rfl⟩⟩
  | c :: l => by
    obtain ⟨h1, h2⟩ := cut_point l
    have hge := Lib.indexByte_ge l 46
    rw [whole_cons, frac_cons]
    by_cases hc : c = 46
    · subst hc
      have e : Lib.indexByte (46 :: l) 46 = 0 := by simp [Lib.indexByte]
      rw [e]
      exact ⟨fun _ => ⟨rfl, rfl⟩, fun h => absurd (by decide) h⟩
    · rw [if_neg hc, if_neg hc]
      have e : Lib.indexByte (c :: l) 46 = if Lib.indexByte l 46 == -1 then -1 else Lib.indexByte l 46 + 1 := by simp [Lib.indexByte, hc]
      rw [e]
      by_cases hn : Lib.indexByte l 46 = -1
      · rw [hn]
        obtain ⟨g1, g2⟩ := h2 (by omega)
        refine ⟨fun h => absurd h (by decide), fun _ => ⟨?_, g2⟩⟩
        rw [← g1]
      · rw [if_neg (by simpa using hn)]
        obtain ⟨g1, g2⟩ := h1 (by omega)
        refine ⟨fun _ => ?_, fun h => absurd (by omega) h⟩
        rw [show (Lib.indexByte l 46 + 1).toNat = (Lib.indexByte l 46).toNat + 1 by omega]
        exact ⟨by rw [List.take_succ_cons, g1], by rw [List.drop_succ_cons, g2]⟩
theorem cut_eq (l : List UInt8) : (Lib.cut l [46]).1 = whole l ∧ (Lib.cut l [46]).2.1 = frac l := by
  obtain ⟨h1, h2⟩ := cut_point l
  unfold Lib.cut
  rw [Lib.index_one]
  split
  · rename_i h
    exact h1 h
  · rename_i h
    obtain ⟨g1, g2⟩ := h2 h
    exact ⟨g1, g2⟩

def unsign : List UInt8 → List UInt8
  | [] => []
  | c :: l => if c = 43 ∨ c = 45 then l else c :: l
def plainU (l : List UInt8) : Bool := decide (0 < (whole l).length + (frac l).length) && digs (whole l) && digs (frac l)
def isPlain (l : List UInt8) : Bool := plainU (unsign l)

/-! ### strings.Cut at the point -/
theorem cut_any (s : ByteArray) (m : Int) (w : World) (hs : s.size < 4294967281) (hm : w.cell? ⟨0, 0, none⟩ = some (.int .i64 m)) :
    ∃ b, Calls Tryd.prog 30 #[.string s, .string ⟨#[46]⟩] w fun e w' => e = .returned (.tuple #[.string ⟨(whole s.data.toList).toArray⟩, .string ⟨(frac s.data.toList).toArray⟩, .bool b]) ∧ ∃ n, w' = w.drewN n := by
  have h := Tryd.strings_Cut s ⟨#[46]⟩ m w hs hm
  obtain ⟨h1, h2⟩ := cut_eq s.data.toList
  refine ⟨(Lib.cut s.data.toList [46]).2.2, ?_⟩
  rw [show (⟨#[46]⟩ : ByteArray).data.toList = [46] from rfl] at h
  rw [h1, h2] at h
  exact h

theorem toList_ne (s : ByteArray) (h : 0 < s.size) : s.toList.isEmpty = false := by
  rw [show s.toList = s.data.toList by simp [ByteArray.toList_eq]]
  cases hl : s.data.toList with
  | nil => rw [Lib.size_eq, hl] at h; exact absurd h (by decide)
  | cons a l => rfl
theorem toList_nil (s : ByteArray) (h : ¬ 0 < s.size) : s.toList.isEmpty = true := by
  rw [show s.toList = s.data.toList by simp [ByteArray.toList_eq]]
  cases hl : s.data.toList with
  | nil => rfl
  | cons a l => rw [Lib.size_eq, hl] at h; exact absurd (by simp) h
theorem data_cons (s : ByteArray) (h : 0 < s.size) : s.data.toList = s[0] :: s.data.toList.drop 1 := by
  have := drop_at s 0 h
  rw [List.drop_zero] at this
  exact this
theorem whole_length (l : List UInt8) : (whole l).length ≤ l.length := (List.takeWhile_sublist _).length_le
theorem frac_length (l : List UInt8) : (frac l).length ≤ l.length := Nat.le_trans (by rw [frac, List.length_drop]; omega) (List.dropWhile_sublist (· != 46)).length_le

def Cut1 (s t : ByteArray) : Prop := (∃ h : 0 < s.size, (s[0] = 43 ∨ s[0] = 45) ∧ t = s.extract 1 s.size) ∨ (¬ 0 < s.size ∧ t = s) ∨ (∃ h : 0 < s.size, s[0] ≠ 43 ∧ s[0] ≠ 45 ∧ t = s)
theorem byte_ne (c d : UInt8) (h : c ≠ d) : ((c.toNat : Int) == (d.toNat : Int)) = false := by
  rw [beq_eq_false_iff_ne]
  intro e
  exact h (UInt8.toNat_inj.1 (by omega))

set_option maxHeartbeats 2000000 in
theorem isPlain_core (s t a b : ByteArray) (x da db : Bool) (w : World) (hsz : s.size ≤ 100000000) (ha : a.size ≤ 100000000) (hb : b.size ≤ 100000000)
    (hcut : Calls Tryd.prog 30 #[.string t, .string ⟨#[46]⟩] w fun e w' => e = .returned (.tuple #[.string a, .string b, .bool x]) ∧ ∃ n, w' = w.drewN n)
    (hda : ∀ w, Calls Tryd.prog 44 #[.string a] w fun e w' => e = .returned (.bool da) ∧ w' = w)
    (hdb : ∀ w, Calls Tryd.prog 44 #[.string b] w fun e w' => e = .returned (.bool db) ∧ w' = w) (hc : Cut1 s t) :
    Calls Tryd.prog 27 #[.string s] w fun e w' => e = .returned (.bool (decide (0 < a.size + b.size) && da && db)) ∧ ∃ n, w' = w.drewN n := by
  have fin : ∀ {p : Bool}, decide (0 < a.size + b.size) = p → p = decide ((0 : Int) < (a.size : Int) + (b.size : Int)) := fun h => by
    rw [← h, Bool.eq_iff_iff, decide_eq_true_iff, decide_eq_true_iff]
    omega
  generalize hp : decide (0 < a.size + b.size) = p
  have hp' := (fin hp).symm
  clear fin hp
  rcases hc with ⟨h, hs, rfl⟩ | ⟨h, rfl⟩ | ⟨h, h1, h2, rfl⟩
  · have hne := toList_ne s h
    obtain ⟨y, hy⟩ : ∃ y, s[0] = y := ⟨_, rfl⟩
    rw [hy] at hs
    rcases hs with rfl | rfl
    · cases p <;> cases da <;> cases db <;>
      (go_enter Tryd.func27, Tryd.ntmps27
       go_wp2_with (first | (go_at_call 30; go_fit hcut; rintro e w1 ⟨rfl, nq, rfl⟩) | (go_at_call 44; first | (go_fit (hda _); rintro e w1 ⟨rfl, rfl⟩) | (go_fit (hdb _); rintro e w1 ⟨rfl, rfl⟩)) | fail)
       go_ret
       exact ⟨rfl, _, rfl⟩)
    · cases p <;> cases da <;> cases db <;>
      (go_enter Tryd.func27, Tryd.ntmps27
       go_wp2_with (first | (go_at_call 30; go_fit hcut; rintro e w1 ⟨rfl, nq, rfl⟩) | (go_at_call 44; first | (go_fit (hda _); rintro e w1 ⟨rfl, rfl⟩) | (go_fit (hdb _); rintro e w1 ⟨rfl, rfl⟩)) | fail)
       go_ret
       exact ⟨rfl, _, rfl⟩)
  · have hne := toList_nil t h
    cases p <;> cases da <;> cases db <;>
    (go_enter Tryd.func27, Tryd.ntmps27
     go_wp2_with (first | (go_at_call 30; go_fit hcut; rintro e w1 ⟨rfl, nq, rfl⟩) | (go_at_call 44; first | (go_fit (hda _); rintro e w1 ⟨rfl, rfl⟩) | (go_fit (hdb _); rintro e w1 ⟨rfl, rfl⟩)) | fail)
     go_ret
     exact ⟨rfl, _, rfl⟩)
  · have hne := toList_ne t h
    obtain ⟨y, hy⟩ : ∃ y, t[0] = y := ⟨_, rfl⟩
    rw [hy] at h1 h2
    have g1 : ((y.toNat : Int) == 43) = false := byte_ne y 43 h1
    have g2 : ((y.toNat : Int) == 45) = false := byte_ne y 45 h2
    clear h1 h2
    cases p <;> cases da <;> cases db <;>
    (go_enter Tryd.func27, Tryd.ntmps27
     go_wp2_with (first | (go_at_call 30; go_fit hcut; rintro e w1 ⟨rfl, nq, rfl⟩) | (go_at_call 44; first | (go_fit (hda _); rintro e w1 ⟨rfl, rfl⟩) | (go_fit (hdb _); rintro e w1 ⟨rfl, rfl⟩)) | fail)
     go_ret
     exact ⟨rfl, _, rfl⟩)

theorem isPlain_any (s : ByteArray) (w : World) (m : Int) (hs : s.size ≤ 100000000) (hm : w.cell? ⟨0, 0, none⟩ = some (.int .i64 m)) :
    Calls Tryd.prog 27 #[.string s] w fun e w' => e = .returned (.bool (isPlain s.data.toList)) ∧ ∃ n, w' = w.drewN n := by
  have main : ∀ t : ByteArray, Cut1 s t → t.data.toList = unsign s.data.toList → t.size ≤ 100000000 → Calls Tryd.prog 27 #[.string s] w fun e w' => e = .returned (.bool (isPlain s.data.toList)) ∧ ∃ n, w' = w.drewN n := by
    intro t hc ht hts
    obtain ⟨b, hcut⟩ := cut_any t m w (by omega) hm
    have hW : (⟨(whole t.data.toList).toArray⟩ : ByteArray).size ≤ 100000000 := by
      have := whole_length t.data.toList
      rw [Lib.size_mk]
      rw [Lib.size_eq] at hts
      omega
    have hF : (⟨(frac t.data.toList).toArray⟩ : ByteArray).size ≤ 100000000 := by
      have := frac_length t.data.toList
      rw [Lib.size_mk]
      rw [Lib.size_eq] at hts
      omega
    have h := isPlain_core s t ⟨(whole t.data.toList).toArray⟩ ⟨(frac t.data.toList).toArray⟩ b (digs (whole t.data.toList)) (digs (frac t.data.toList)) w hs hW hF hcut (fun w => digitsOnly_any _ w hW) (fun w => digitsOnly_any _ w hF) hc
    rw [Lib.size_mk, Lib.size_mk, ht] at h
    exact h
  by_cases h0 : 0 < s.size
  · have hd := data_cons s h0
    obtain ⟨y, hy⟩ : ∃ y, s[0] = y := ⟨_, rfl⟩
    rw [hy] at hd
    by_cases hyy : y = 43 ∨ y = 45
    · refine main (s.extract 1 s.size) (Or.inl ⟨h0, by rw [hy]; exact hyy, rfl⟩) ?_ (by rw [Lib.extract_from, Lib.size_mk, List.length_drop, ← Lib.size_eq]; omega)
      rw [Lib.extract_from]
      show s.data.toList.drop 1 = _
      generalize s.data.toList.drop 1 = r at hd ⊢
      rw [hd]
      show r = if _ then _ else _
      rw [if_pos hyy]
    · refine main s (Or.inr (Or.inr ⟨h0, by rw [hy]; exact fun e => hyy (Or.inl e), by rw [hy]; exact fun e => hyy (Or.inr e), rfl⟩)) ?_ hs
      rw [hd]
      show _ = if _ then _ else _
      rw [if_neg hyy]
  · refine main s (Or.inr (Or.inl ⟨h0, rfl⟩)) ?_ hs
    have : s.data.toList = [] := List.length_eq_zero_iff.1 (by rw [← Lib.size_eq]; omega)
    rw [this]
    rfl

/-! ### The canonical forms -/
def CanE (l : List UInt8) : Prop := l = [48] ∨ ∃ sg c r, l = sg ++ c :: r ∧ (sg = [] ∨ sg = [45]) ∧ c ≠ 48 ∧ digs (c :: r) = true
theorem toList_is (s : ByteArray) : s.toList = s.data.toList := by simp [ByteArray.toList_eq]
theorem ne48 {c : UInt8} (h : ¬ (c.toNat : Int) = 48) : c ≠ 48 := fun e => h (by rw [e]; rfl)
theorem canE_any (s : ByteArray) (w : World) (hs : s.size ≤ 100000000) :
    Calls Tryd.prog 33 #[.string s] w fun e w' => ∃ r, e = .returned (.bool r) ∧ (r = true → CanE s.data.toList) ∧ w' = w := by
  go_enter Tryd.func33, Tryd.ntmps33
  go_wp2_with (first | (go_at_call 19; go_fit (allDigits_any _ _ (by first | exact hs | (rw [ByteArray.size_extract]; omega))); rintro e w1 ⟨rfl, rfl⟩) | fail)
  all_goals go_ret
  all_goals first | exact ⟨_, rfl, fun h => absurd h (by decide), rfl⟩ | skip
  · rename_i h
    refine ⟨_, rfl, fun _ => Or.inl ?_, rfl⟩
    rw [← toList_is]
    exact eq_of_beq h
  · rename_i h1 h2 h3 h5 h4
    refine ⟨_, rfl, fun hr => Or.inr ?_, rfl⟩
    rw [Bool.and_eq_true] at hr
    have hd := data_cons s h2
    have hx : s[0] = 45 := UInt8.toNat_inj.1 (by have := eq_of_beq h3; simp only [UInt8.reduceToNat]; omega)
    have hlt : 1 < s.size := by omega
    have hd1 := drop_at s 1 hlt
    have hx1 : (s.extract 1 s.size)[0]'(by rw [ByteArray.size_extract]; omega) = s[1] := by
      rw [ByteArray.getElem_extract]
    rw [hx1] at h4
    rw [hx] at hd
    refine ⟨[45], s[1], s.data.toList.drop 2, ?_, Or.inr rfl, ne48 h4, ?_⟩
    · rw [hd, hd1]
      rfl
    · have := hr.2
      rw [List.take_of_length_le (by rw [List.length_tail, ← Lib.size_eq]; exact Nat.le_refl _), ← List.drop_one, hd1] at this
      exact this
  · rename_i h1 h2 h3 h4
    refine ⟨_, rfl, fun hr => Or.inr ?_, rfl⟩
    rw [Bool.and_eq_true] at hr
    have hd := data_cons s h2
    refine ⟨[], s[0], s.data.toList.drop 1, ?_, Or.inl rfl, ne48 h4, ?_⟩
    · rw [List.nil_append]
      exact hd
    · rw [← hd]
      exact hr.2

/-- What canonicalNumber lets pass. -/
def CanN (neg : Bool) (l e : List UInt8) : Prop := (l = [] ∧ neg = false ∧ e = [48]) ∨ (l ≠ [] ∧ digs l = true ∧ l.head? ≠ some 48 ∧ l.getLast? ≠ some 48 ∧ CanE e)
theorem canN_any (neg : Bool) (d x : ByteArray) (w : World) (hd : d.size ≤ 100000000) (hx : x.size ≤ 100000000) :
    Calls Tryd.prog 18 #[.bool neg, .string d, .string x] w fun e w' => ∃ r, e = .returned (.bool r) ∧ (r = true → CanN neg d.data.toList x.data.toList) ∧ w' = w := by
  by_cases h0 : 0 < d.size
  · have hne := toList_ne d h0
    cases neg <;>
    · go_enter Tryd.func18, Tryd.ntmps18
      go_wp2_with (first | (go_at_call 19; go_fit (allDigits_any _ _ hd); rintro e w1 ⟨rfl, rfl⟩) | (go_at_call 33; go_fit (canE_any _ _ hx); rintro e w1 ⟨r, rfl, hr, rfl⟩; have HR : Hid _ := hr; clear hr) | fail)
      all_goals go_ret
      all_goals first | exact ⟨_, rfl, fun h => absurd h (by decide), rfl⟩ | skip
      rename_i h1 h2 h3 h4
      refine ⟨_, rfl, fun hr => Or.inr ⟨?_, h1, ?_, ?_, HR.out ?_⟩, rfl⟩
      · intro e
        rw [Lib.size_eq, e] at h0
        exact absurd h0 (by decide)
      · rw [data_cons d h0]
        intro e
        exact ne48 h2 (Option.some.inj e)
      · rw [List.getLast?_eq_getElem?]
        intro e
        have hlen : d.data.toList.length - 1 < d.data.toList.length := by rw [← Lib.size_eq]; omega
        rw [List.getElem?_eq_getElem hlen] at e
        refine ne48 h4 (Eq.trans ?_ (Option.some.inj e))
        show d.data[d.size - 1] = _
        simp
      · rw [Bool.and_eq_true] at hr
        exact hr.2
  · have hne := toList_nil d h0
    cases neg <;>
    · go_enter Tryd.func18, Tryd.ntmps18
      go_wp2_with fail
      all_goals go_ret
      all_goals first | exact ⟨_, rfl, fun h => absurd h (by decide), rfl⟩ | skip
      all_goals
        refine ⟨_, rfl, fun hr => Or.inl ⟨List.length_eq_zero_iff.1 (by rw [← Lib.size_eq]; omega), rfl, ?_⟩, rfl⟩
        rw [← toList_is]
        exact eq_of_beq hr

theorem bytes17_any (neg : Bool) (a b : ByteArray) (w : World) (ha : a.size ≤ maxLen) (hb : b.size ≤ maxLen) :
    Calls Tryd.prog 17 #[.bool neg, .string a, .string b] w fun e w' => ∃ r, e = .returned (.bool r) ∧ (r = true → a.size + b.size ≤ 1048576) ∧ w' = w := by
  have ha' : a.size ≤ 9223372036854775807 := ha
  have hb' : b.size ≤ 9223372036854775807 := hb
  clear ha hb
  by_cases h1 : a.size ≤ 1048576
  · by_cases h2 : b.size ≤ 1048576
    · by_cases h3 : a.size + b.size ≤ 1048576
      · go_enter Tryd.func17, Tryd.ntmps17
        go_wp2_with fail
        go_ret
        exact ⟨_, rfl, fun _ => h3, rfl⟩
      · go_enter Tryd.func17, Tryd.ntmps17
        go_wp2_with fail
        go_ret
        exact ⟨_, rfl, fun h => absurd h (by decide), rfl⟩
    · go_enter Tryd.func17, Tryd.ntmps17
      go_wp2_with fail
      go_ret
      exact ⟨_, rfl, fun h => absurd h (by decide), rfl⟩
  · go_enter Tryd.func17, Tryd.ntmps17
    go_wp2_with fail
    go_ret
    exact ⟨_, rfl, fun h => absurd h (by decide), rfl⟩
end Go.Proofs.Qxb6606029aDoor
