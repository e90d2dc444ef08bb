/-
  FnReadMatchesScanner: function 5 answers true at every text.
-/
import Derived.Test.Qxb6606029aDoorMr
import Derived.Test.Qxb6606029aDoorReadW
namespace Go.Proofs.Qxb6606029aDoor
open Go.RowKit Go.Joins

theorem bytes14_any (a : ByteArray) (w : World) (ha : a.size ≤ maxLen) :
    Calls Tryd.prog 14 #[.string a] w fun e w' => e = .returned (.bool (decide (a.size ≤ 1048576))) ∧ w' = w := by
  have ha' : a.size ≤ 9223372036854775807 := ha
  clear ha
  by_cases h1 : a.size ≤ 1048576
  · rw [decide_eq_true h1]
    go_enter Tryd.func14, Tryd.ntmps14
    go_wp2_with fail
    go_ret
    exact ⟨rfl, rfl⟩
  · rw [decide_eq_false h1]
    go_enter Tryd.func14, Tryd.ntmps14
    go_wp2_with fail
    go_ret
    exact ⟨rfl, rfl⟩
theorem sgn_ex (s : ByteArray) : ∃ S B sd, s.data.toList = S ++ B ∧ Sign S ∧ (S = [] → NS B) ∧ (if sd then 1 else 0 : Nat) = S.length ∧ Sgn s sd (decide (S = [45])) := by
  by_cases h : 0 < s.size
  · have hd := data_cons s h
    obtain ⟨c, hc⟩ : ∃ c, s[0] = c := ⟨_, rfl⟩
    rw [hc] at hd
    by_cases h1 : c = 43
    · subst h1
      exact ⟨[43], _, true, hd, Or.inr (Or.inl rfl), (fun e => by cases e), rfl, ⟨Or.inr (Or.inl ⟨h, hc, rfl, rfl⟩)⟩⟩
    · by_cases h2 : c = 45
      · subst h2
        exact ⟨[45], _, true, hd, Or.inr (Or.inr rfl), (fun e => by cases e), rfl, ⟨Or.inr (Or.inr (Or.inl ⟨h, hc, rfl, rfl⟩))⟩⟩
      · refine ⟨[], s.data.toList, false, rfl, Or.inl rfl, fun _ d hd2 => ?_, rfl, ⟨Or.inr (Or.inr (Or.inr ⟨h, by rw [hc]; exact h1, by rw [hc]; exact h2, rfl, rfl⟩))⟩⟩
        rw [hd] at hd2
        have : c = d := Option.some.inj hd2
        subst this
        exact ⟨h1, h2⟩
  · have he : s.data.toList = [] := List.length_eq_zero_iff.1 (by rw [← Lib.size_eq]; omega)
    refine ⟨[], [], false, he, Or.inl rfl, (fun _ d hd => by cases hd), rfl, ⟨Or.inl ⟨h, rfl, rfl⟩⟩⟩

set_option maxHeartbeats 4000000 in
set_option maxRecDepth 100000 in
theorem lawN_any (s : ByteArray) (w : World) (m0 : Int) (hs : s.size ≤ maxLen) (hm : w.cell? ⟨0, 0, none⟩ = some (.int .i64 m0)) (ht : Tab w) :
    Calls Tryd.prog 5 #[.string s] w fun e w' => e = .returned (.bool true) ∧ Below w.heap.size w w' := by
  have cB := bytes14_any s w hs
  have hs' : s.size ≤ 9223372036854775807 := hs
  clear hs
  by_cases h1 : s.size ≤ 1048576
  · rw [decide_eq_true h1] at cB
    obtain ⟨S, B, sd, hl, hS, hB, hst, hsg⟩ := sgn_ex s
    obtain ⟨ok, A, D, X, hA, cR⟩ := read_any s.data.toList w m0 hm ht (by rw [← Lib.size_eq]; exact h1) S B hl hS hB
    rw [mk_self] at cR
    have cM := fun wk => mr_any s wk sd _ _ hst hsg (by omega)
    have HA : Hid _ := hA
    clear hA hl hS hB hst hsg hm ht
    go_enter Tryd.func5, Tryd.ntmps5
    go_wp2_with (first | (go_at_call 14; go_fit cB; rintro e w' ⟨rfl, hw⟩; replace hw := hw.symm; subst hw) | (go_at_call 15; go_fit cR; rintro e w1 ⟨rfl, hb1⟩) | (go_at_call 16; go_fit (cM _); rintro e w2 ⟨v, rfl, hb2, hans⟩; refine Hid.out ?_) | fail)
    refine Lib.hid ?_
    obtain rfl := HA.out _ hans
    clear HA hans
    have hlt : w1.heap.size < (w1.alloc (.cells #[.bool A, .string D, .string X] 31)).heap.size := by simp
    have hsz := Nat.lt_of_lt_of_le hlt hb2.size
    have c0 : w2.cell? ⟨w1.heap.size, 0, none⟩ = some (.bool A) := (hb2.cell hlt).trans (by simp)
    have c1 : w2.cell? ⟨w1.heap.size, 1, none⟩ = some (.string D) := (hb2.cell hlt).trans (by simp)
    have c2 : w2.cell? ⟨w1.heap.size, 2, none⟩ = some (.string X) := (hb2.cell hlt).trans (by simp)
    have hbl : Below w.heap.size w w2 := below_next (hb1.alloc hb1.size _) hb2
    have HBL : Hid _ := hbl
    clear hb1 hb2 hlt hbl
    have d0 := (cell_on ((Below.refl _ w2).alloc (Nat.le_refl _) (.cells #[.bool A, .string D, .string X] 31)) c0)
    have d1 := (cell_on ((Below.refl _ w2).alloc (Nat.le_refl _) (.cells #[.bool A, .string D, .string X] 31)) c1)
    have d2 := (cell_on ((Below.refl _ w2).alloc (Nat.le_refl _) (.cells #[.bool A, .string D, .string X] 31)) c2)
    go_wp2_with fail
    go_ret
    exact ⟨rfl, HBL.out.alloc HBL.out.size _⟩
  · rw [decide_eq_false h1] at cB
    go_enter Tryd.func5, Tryd.ntmps5
    go_wp2_with (first | (go_at_call 14; go_fit cB; rintro e w' ⟨rfl, hw⟩; replace hw := hw.symm; subst hw) | fail)
    go_ret
    exact ⟨rfl, Below.refl _ _⟩
end Go.Proofs.Qxb6606029aDoor
