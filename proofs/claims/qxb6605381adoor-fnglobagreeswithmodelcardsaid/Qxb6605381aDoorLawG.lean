/-
  FnGlobAgreesWithModel: the walk.
-/
import Derived.Test.Qxb6605381aDoorModel
namespace Go.Proofs.Qxb6605381aDoor
open Go.RowKit Gl

theorem bytes9_any (a b : ByteArray) (w : World) (ha : a.size ≤ maxLen) (hb : b.size ≤ maxLen) : Calls Tryd.prog 9 #[.string a, .string b] w fun e w' => ∃ r, e = .returned (.bool r) ∧ w' = w := by
  unfold maxLen at ha hb
  by_cases h1 : a.size ≤ 1048576
  · by_cases h2 : b.size ≤ 1048576
    · by_cases h3 : a.size + b.size ≤ 1048576
      · go_enter Tryd.func9, Tryd.ntmps9
        go_wp2_with fail
        go_ret
        exact ⟨_, rfl, rfl⟩
      · go_enter Tryd.func9, Tryd.ntmps9
        go_wp2_with fail
        go_ret
        exact ⟨_, rfl, rfl⟩
    · go_enter Tryd.func9, Tryd.ntmps9
      go_wp2_with fail
      go_ret
      exact ⟨_, rfl, rfl⟩
  · go_enter Tryd.func9, Tryd.ntmps9
    go_wp2_with fail
    go_ret
    exact ⟨_, rfl, rfl⟩

theorem zzglob_any (pat s : ByteArray) (w : World) (hp : pat.size ≤ 100000000) (hs : s.size ≤ 100000000) :
    Calls Tryd.prog 10 #[.string pat, .string s] w fun e w' => e = .returned (.bool (gm pat.data.toList s.data.toList)) ∧ Below w.heap.size w w' := by
  have c31 := glob_any pat s w hp hs
  go_enter Tryd.func10, Tryd.ntmps10
  go_wp2_with (go_at_call 31; go_fit c31; rintro e w' ⟨rfl, hb⟩)
  go_ret
  exact ⟨rfl, hb⟩

set_option maxHeartbeats 1000000 in
theorem lawG_any (pat s : ByteArray) (w : World) (hp : pat.size ≤ maxLen) (hs : s.size ≤ maxLen) :
    Calls Tryd.prog 3 #[.string pat, .string s] w fun e w' => e = .returned (.bool true) ∧ Below w.heap.size w w' := by
  have c9 := bytes9_any pat s w hp hs
  unfold maxLen at hp hs
  go_enter Tryd.func3, Tryd.ntmps3
  go_wp2_with (go_at_call 9; go_fit c9; rintro e w' ⟨r, rfl, rfl⟩; refine Hid.out ?_)
  refine Lib.hid ?_
  clear c9
  cases r with
  | false =>
    go_wp2_with fail
    go_ret
    exact ⟨rfl, Below.refl _ _⟩
  | true =>
    by_cases h1 : pat.size ≤ 65536
    · by_cases h2 : s.size ≤ 65536
      · have c10 := fun w => zzglob_any pat s w (by omega) (by omega)
        have c11 := fun w => model_any pat s w (by omega) (by omega)
        obtain ⟨b, hb⟩ : ∃ b, gm pat.data.toList s.data.toList = b := ⟨_, rfl⟩
        rw [hb] at c10 c11
        have C10 : Hid _ := c10
        have C11 : Hid _ := c11
        clear hb c10 c11
        go_wp2_with (first
          | (go_at_call 10; go_fit (C10.out _); rintro e w1 ⟨rfl, hb1⟩)
          | (go_at_call 11; go_fit (C11.out _); rintro e w2 ⟨rfl, hb2⟩))
        go_ret
        exact ⟨by simp, hb1.trans (hb2.mono hb1.size)⟩
      · go_wp2_with fail
        go_ret
        exact ⟨rfl, Below.refl _ _⟩
    · go_wp2_with fail
      go_ret
      exact ⟨rfl, Below.refl _ _⟩
end Go.Proofs.Qxb6605381aDoor
