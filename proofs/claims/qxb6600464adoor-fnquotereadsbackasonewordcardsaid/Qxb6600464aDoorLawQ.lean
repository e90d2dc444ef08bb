/-
  FnQuoteReadsBackAsOneWord: the walk.
-/
import Derived.Test.Qxb6600464aDoorQuote
import Derived.Test.Qxb6600464aDoorRead
namespace Go.Proofs.Qxb6600464aDoor
open Go.RowKit Sw

theorem mk_self (s : ByteArray) : mk s.data.toList = s := rfl
theorem own_shape {w : World} {B n : Nat} {v : Value} {xs : List ByteArray} (h : w.ownsRow B 9 1 v n (scs xs)) (hn : 0 < n) :
    ∃ g cap, v = .slice (some ⟨g, 0, none⟩) n cap ∧ g < w.heap.size ∧ n ≤ cap ∧ B ≤ g ∧ ∀ (j : Nat) x, xs[j]? = some x → w.cell? ⟨g, j, none⟩ = some (.string x) := by
  have hc := fun g hg => h.cells (g := g) hg
  have hlt := h.lt
  rcases h.2 with ⟨_, h0⟩ | ⟨g, cap, cur, rfl, hB, _, hcap, _, _, _⟩
  · omega
  · refine ⟨g, cap, rfl, (hlt g rfl).2, hcap, hB, fun j x hx => ?_⟩
    have := hc g rfl j (.string x) (by simp [scs, hx])
    rwa [addr_add] at this

set_option maxHeartbeats 1000000 in
theorem lawQ_any (s : ByteArray) (w : World) (hs : s.size ≤ maxLen) (m : Int) (hm : w.cell? ⟨0, 0, none⟩ = some (.int .i64 m)) :
    Calls Tryd.prog 3 #[.string s] w fun e w' => e = .returned (.bool true) ∧ Below w.heap.size w w' := by
  by_cases h : s.size ≤ 1048576
  · have hd : decide (s.size ≤ 1048576) = true := by simpa using h
    have c7 := bytes7_any s w hs
    rw [hd] at c7
    clear hd hs
    have c9 := quote_any s w (by omega) m hm
    obtain ⟨q, hq⟩ : ∃ q : ByteArray, (⟨(quote s.data.toList).toArray⟩ : ByteArray) = q := ⟨_, rfl⟩
    have hle : q.size ≤ 100000000 := by
      subst hq
      have := quote_len s.data.toList
      have e : s.data.toList.length = s.size := by simp
      simp only [ByteArray.size, List.size_toArray]
      omega
    have c8 : ∀ w1, Hid (Calls Tryd.prog 8 #[.string q] w1 fun e w' => ∃ g cap, e = .returned (.tuple #[.slice (some ⟨g, 0, none⟩) 1 cap, .bool true]) ∧ w'.cell? ⟨g, 0, none⟩ = some (.string s) ∧ Below w1.heap.size w1 w') := fun w1 => by
      refine (readWords_any q w1 [s.data.toList] hle (by simp) (by subst hq; simp [line, behind])).mono ?_
      rintro e w' ⟨v, rfl, ho, hb⟩
      obtain ⟨g, cap, rfl, _, _, _, hc⟩ := own_shape ho (by simp)
      exact ⟨g, cap, rfl, hc 0 _ rfl, hb⟩
    rw [hq] at c9
    clear hq hm
    go_enter Tryd.func3, Tryd.ntmps3
    go_wp2_with (first
      | (go_at_call 7; go_fit c7; rintro e w' ⟨rfl, rfl⟩)
      | (go_at_call 9; go_fit c9; rintro e w1 ⟨rfl, hb1⟩)
      | (go_at_call 8; go_fit (c8 _).out; rintro e w2 ⟨g, cap, rfl, hcell, hb2⟩))
    go_ret
    exact ⟨by simp, hb1.trans (hb2.mono hb1.size)⟩
  · have hd : decide (s.size ≤ 1048576) = false := by simpa using h
    have c7 := bytes7_any s w hs
    rw [hd] at c7
    go_enter Tryd.func3, Tryd.ntmps3
    go_wp2_with (go_at_call 7; go_fit c7; rintro e w' ⟨rfl, rfl⟩)
    go_ret
    exact ⟨rfl, Below.refl _ _⟩
end Go.Proofs.Qxb6600464aDoor
