/-
  FnQuoteWritesNoControlByte: the walk.
-/
import Derived.Test.Qxb6600464aDoorQuote
namespace Go.Proofs.Qxb6600464aDoor
open Go.RowKit Sw

set_option maxHeartbeats 1000000 in
theorem lawC_any (s : ByteArray) (w : World) (hs : s.size ≤ maxLen) (m : Int) (hm : w.cell? ⟨0, 0, none⟩ = some (.int .i64 m)) :
    Calls Tryd.prog 6 #[.string s] w fun e w' => e = .returned (.bool true) ∧ Below w.heap.size w w' := by
  by_cases h : s.size ≤ 1048576
  · have hd : decide (s.size ≤ 1048576) = true := by simpa using h
    have c16 := bytes16_any s w hs
    rw [hd] at c16
    clear hd hs
    have c9 := quote_any s w (by omega) m hm
    obtain ⟨q, hq⟩ : ∃ q : ByteArray, (⟨(quote s.data.toList).toArray⟩ : ByteArray) = q := ⟨_, rfl⟩
    have hctl : ∀ k (hk : k < q.size), ctlB q[k] = false := by
      subst hq
      intro k hk
      exact quote_no_ctl s.data.toList _ (by simp [ByteArray.getElem_eq_getElem_data])
    have hpos : 0 < q.size := by
      subst hq
      have := quote_ne_nil s.data.toList
      simp only [ByteArray.size, List.size_toArray]
      exact List.length_pos_iff.2 this
    have hle : q.size ≤ 100000000 := by
      subst hq
      have := quote_len s.data.toList
      have e : s.data.toList.length = s.size := by simp
      simp only [ByteArray.size, List.size_toArray]
      omega
    rw [hq] at c9
    have HC : Hid _ := hctl
    clear hctl hq hm
    go_enter Tryd.func6, Tryd.ntmps6
    go_wp2_with (first
      | (go_at_call 16; go_fit c16; rintro e w' ⟨rfl, rfl⟩)
      | (go_at_call 9; go_fit c9; rintro e w1 ⟨rfl, hb1⟩))
    go_loopg [4] q.size (fun g i wr => ∃ k : Nat, k + g = q.size ∧ i = .int .i64 k ∧ wr = w1)
    case atStart => exact ⟨0, by omega, rfl, rfl⟩
    case round =>
      obtain ⟨k, hk, rfl, rfl⟩ := hrel
      by_cases hlt : k < q.size
      · have hc := HC.out k hlt
        have HG : Hid (k + gk = q.size) := hk
        clear hk
        go_wp2_with (go_at_call 17; refine (zzControl_any _ _).mono ?_; rintro e w' ⟨rfl, rfl⟩)
        go_roundg (gk - 1)
        case measure => have := HG.out; omega
        case rel => exact ⟨k + 1, by have := HG.out; omega, by go_num, rfl⟩
      · clear hk
        go_wp2
        go_ret
        exact ⟨rfl, hb1⟩
  · have hd : decide (s.size ≤ 1048576) = false := by simpa using h
    have c16 := bytes16_any s w hs
    rw [hd] at c16
    go_enter Tryd.func6, Tryd.ntmps6
    go_wp2_with (go_at_call 16; go_fit c16; rintro e w' ⟨rfl, rfl⟩)
    go_ret
    exact ⟨rfl, Below.refl _ _⟩
end Go.Proofs.Qxb6600464aDoor
