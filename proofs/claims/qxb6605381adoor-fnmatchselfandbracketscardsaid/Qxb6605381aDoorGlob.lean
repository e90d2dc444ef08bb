/-
  itemkey.glob, by its contract.
-/
import Derived.Test.Qxb6605381aDoorProg
import Derived.Test.Qxb6605381aDoorInv
import Derived.Test.Qxb6605381aDoorShelf
import Derived.WalkKit
import Derived.Deep.LoopGhost
import Derived.Deep.QuietTactic
import Derived.BigQuiet
import Derived.Deep.DeepFit
import Derived.Lib.Hide
namespace Go.Proofs.Qxb6605381aDoor
open Go.RowKit Gl

theorem drop_at (s : ByteArray) (p : Nat) (hp : p < s.size) : s.data.toList.drop p = s[p] :: s.data.toList.drop (p + 1) := by
  have h : p < s.data.toList.length := by simpa using hp
  rw [List.drop_eq_getElem_cons h]
  rfl
theorem drop_end (s : ByteArray) (p : Nat) (hp : ¬ p < s.size) : s.data.toList.drop p = [] := List.drop_of_length_le (by simp; omega)
theorem byte_ne (c d : UInt8) (h : c ≠ d) : ((c.toNat : Int) == (d.toNat : Int)) = false := by
  rw [beq_eq_false_iff_ne]
  intro e
  exact h (UInt8.toNat_inj.1 (by omega))
theorem below_drewN (w : World) : ∀ n, Below w.heap.size w (w.drewN n)
  | 0 => Below.refl _ _
  | n + 1 => (below_drewN w n).drew

set_option maxHeartbeats 2000000 in
theorem glob_any (pat s : ByteArray) (w : World) (hp : pat.size ≤ 100000000) (hs : s.size ≤ 100000000) :
    Calls Tryd.prog 31 #[.string pat, .string s] w fun e w' => e = .returned (.bool (gm pat.data.toList s.data.toList)) ∧ Below w.heap.size w w' := by
  have hpl : pat.data.toList.length = pat.size := by simp
  have hsl : s.data.toList.length = s.size := by simp
  go_enter Tryd.func31, Tryd.ntmps31
  go_wp2_with fail
  go_loopg [5, 6, 7, 8] (s.data.toList.length * (pat.data.toList.length + 1) + (pat.data.toList.length - 0)) (fun g vp vi vs vm wr => ∃ p i q : Nat, vp = .int .i64 p ∧ vi = .int .i64 i ∧ p ≤ pat.size ∧ i ≤ s.size ∧ wr = w.drewN q ∧ Inv pat.data.toList s.data.toList p i vs vm g)
  case atStart => exact ⟨0, 0, 0, rfl, rfl, Nat.zero_le _, Nat.zero_le _, rfl, inv_start _ _⟩
  case round =>
    obtain ⟨p, i, q, rfl, rfl, hpp, hii, rfl, hinv⟩ := hrel
    have HI : Hid _ := hinv
    clear hinv
    by_cases hi : i < s.size
    · by_cases hpm : p < pat.size
      · obtain ⟨x, hx⟩ : ∃ x, pat[p] = x := ⟨_, rfl⟩
        obtain ⟨y, hy⟩ : ∃ y, s[i] = y := ⟨_, rfl⟩
        have hdp := drop_at pat p hpm
        have hds := drop_at s i hi
        rw [hx] at hdp
        rw [hy] at hds
        have HDP : Hid _ := hdp
        have HDS : Hid _ := hds
        clear hdp hds
        by_cases h42 : x = 42
        · subst h42
          obtain ⟨g', hg, hinv'⟩ := inv_star HI.out (by omega) HDP.out
          have HI' : Hid _ := hinv'
          clear hinv'
          go_wp2_with fail
          go_roundg g'
          case measure => exact hg
          case rel => exact ⟨p + 1, i, q, by go_num, rfl, by omega, by omega, rfl, HI'.out⟩
        · have n42 : ((x.toNat : Int) == 42) = false := byte_ne x 42 h42
          by_cases hxy : x = y
          · subst hxy
            obtain ⟨g', hg, hinv'⟩ := inv_char HI.out (by omega) h42 HDP.out HDS.out
            have HI' : Hid _ := hinv'
            clear hinv'
            go_wp2_with fail
            go_quiet (fail)
            go_wp2_with fail
            go_roundg g'
            case measure => exact hg
            case rel => exact ⟨p + 1, i + 1, q + nq, by go_num, by go_num, by omega, by omega, rfl, HI'.out⟩
          · have nxy := byte_ne x y hxy
            rcases inv_back HI.out (by omega) (by omega) (by rw [HDP.out, HDS.out]; exact miss_char x y h42 hxy) with ⟨h1, hf⟩ | ⟨st, mk, h1, h2, h3, h4, g', hg, hinv'⟩
            · rw [h1]
              have HF : Hid _ := hf
              clear hf h1
              go_wp2_with fail
              go_quiet (fail)
              go_wp2_with fail
              go_ret
              rw [HF.out]
              exact ⟨rfl, below_drewN w (q + nq)⟩
            · rw [h1, h2]
              have HI' : Hid _ := hinv'
              clear hinv' h1 h2
              go_wp2_with fail
              go_quiet (fail)
              go_wp2_with fail
              go_roundg g'
              case measure => exact hg
              case rel => exact ⟨st + 1, mk + 1, q + nq, by go_num, by go_num, by omega, by omega, rfl, HI'.out⟩
      · have hd : decide ((p : Int) < (pat.size : Int)) = false := by simp; omega
        have hdp := drop_end pat p hpm
        have hds := drop_at s i hi
        rcases inv_back HI.out (by omega) (by omega) (by rw [hdp, hds]; rfl) with ⟨h1, hf⟩ | ⟨st, mk, h1, h2, h3, h4, g', hg, hinv'⟩
        · rw [h1]
          have HF : Hid _ := hf
          clear hf h1 hdp hds
          go_wp2_with fail
          go_quiet (fail)
          go_wp2_with fail
          go_ret
          rw [HF.out]
          exact ⟨rfl, below_drewN w (q + nq)⟩
        · rw [h1, h2]
          have HI' : Hid _ := hinv'
          clear hinv' h1 h2 hdp hds
          go_wp2_with fail
          go_quiet (fail)
          go_wp2_with fail
          go_roundg g'
          case measure => exact hg
          case rel => exact ⟨st + 1, mk + 1, q + nq, by go_num, by go_num, by omega, by omega, rfl, HI'.out⟩
    · have hfin := inv_end HI.out (drop_end s i hi)
      have hx : (pat.extract p pat.size).data.toList = pat.data.toList.drop p := by
        simp only [ByteArray.data_extract, Array.toList_extract, List.extract]
        exact List.take_of_length_le (by simp)
      have c33 := fun w => Tryd.strings_Trim_one (pat.extract p pat.size) 42 (by decide) w (by rw [ByteArray.size_extract]; omega)
      rw [hx] at c33
      have hte := trim_empty (pat.data.toList.drop p)
      obtain ⟨E, hE⟩ : ∃ E, Lib.trimB (pat.data.toList.drop p) 42 = E := ⟨_, rfl⟩
      rw [hE] at c33 hte
      have HF : Hid (gm pat.data.toList s.data.toList = E.isEmpty) := by
        show _ = _
        rw [hfin, Bool.eq_iff_iff, ← hte, List.isEmpty_iff]
      have C : Hid _ := c33
      clear hE hte hfin hx c33
      go_wp2_with (go_at_call 33; go_fit (C.out _); rintro e w' ⟨rfl, hw'⟩)
      go_ret
      rw [HF.out]
      refine ⟨rfl, ?_⟩
      rcases hw' with rfl | rfl
      · exact below_drewN w q
      · exact (below_drewN w q).drew
end Go.Proofs.Qxb6605381aDoor
