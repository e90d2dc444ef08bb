/-
  subMag, by its contract.
-/
import Derived.Test.Qxb6606029aDoorAdd
namespace Go.Proofs.Qxb6606029aDoor
open Go.RowKit Go.Joins

set_option maxHeartbeats 4000000 in
set_option maxRecDepth 100000 in
theorem sub_any (a b : ByteArray) (w : World) (hba : b.size ≤ a.size) (hsz : a.size ≤ 10000000) (ha : digs a.data.toList = true) (hb : digs b.data.toList = true) (hv : val b.data.toList ≤ val a.data.toList) :
    Calls Tryd.prog 25 #[.string a, .string b] w fun e w' => e = .returned (.string ⟨(mag (val a.data.toList - val b.data.toList)).toArray⟩) ∧ Below w.heap.size w w' := by
  obtain ⟨i0, hi, hz0, hz1, hz2⟩ := info_parts Tryd.info5
  have HA : Hid _ := ha
  have HB : Hid _ := hb
  have HV : Hid _ := hv
  clear ha hb hv
  go_enter Tryd.func25, Tryd.ntmps25
  go_wp2_with (at_make; refine wpList_make_full _ rfl (.tmp 10) (.tmp 10) 46 rfl w.heap.size 5 i0 (.int .u8 0) 1 Tryd.underlying46 hi hz0 hz1 _ _ _ _ a.size rfl rfl (by omega) (by omega) (by rw [hz2]; omega) (by unfold maxLen; omega) (Nat.le_refl _) ?_)
  intro w1 ho1 hg1
  rw [toList_madeCells_one] at ho1
  have hA1 : w1.ownsRow w.heap.size 5 1 (sl w.heap.size a.size) a.size (bcs (List.replicate a.size 0)) := by
    rw [bcs, List.map_replicate]
    exact ho1
  have hb1 : Below w.heap.size w w1 := (Below.refl _ _).grown hg1 (Nat.le_refl _) (fun k hk => by cases hk)
  have HA1 : Hid _ := hA1
  have HB1 : Hid _ := hb1
  clear ho1 hg1 hA1 hb1
  go_wp2_with fail
  go_loopg [6, 7] a.size (fun gg vc vk wr => ∃ (k c : Nat) (L : List UInt8), vc = .int .i64 c ∧ vk = .int .i64 k ∧ k + gg = a.size ∧ c ≤ 1 ∧ L.length = a.size ∧ Sub a.data.toList b.data.toList L k c ∧ wr.ownsRow w.heap.size 5 1 (sl w.heap.size a.size) a.size (bcs L) ∧ Below w.heap.size w wr)
  case atStart =>
    refine ⟨0, 0, List.replicate a.size 0, rfl, rfl, by omega, by omega, by simp, ?_, HA1.out, HB1.out⟩
    unfold Sub
    rw [tl_zero, tl_zero, tl_zero]
    exact ⟨rfl, rfl⟩
  case round =>
    clear HA1 HB1
    obtain ⟨k, c, L, rfl, rfl, hkg, hc1, hL, hadd, hrow, hbel⟩ := hrel
    have HKG : Hid _ := hkg
    have HSUB : Hid _ := hadd
    have HBEL : Hid _ := hbel
    clear hadd hbel
    by_cases hk : k < a.size
    · clear hkg
      have hxa := dk_at a k hk
      have hda := dig_at HA.out (a.size - 1 - k) (by omega)
      obtain ⟨x, hx⟩ : ∃ x, a[a.size - 1 - k]'(by omega) = x := ⟨_, rfl⟩
      rw [hx] at hxa hda
      have HXA : Hid _ := hxa
      have i1a : (0 : Int) ≤ (a.size : Int) - 1 - k := by omega
      have i2a : (a.size : Int) - 1 - k < (a.size : Int) := by omega
      have x0a : 48 ≤ (x.toNat : Int) := by omega
      have x9a : (x.toNat : Int) ≤ 57 := by omega
      clear hxa
      have hce := own_cell hrow (a.size - 1 - k) (by omega)
      have hfz := hrow.frozenAt (a.size - 1 - k)
      have HROW : Hid _ := hrow
      clear hrow
      by_cases hks : k < b.size
      · have hxb := dk_at b k hks
        have hdb := dig_at HB.out (b.size - 1 - k) (by omega)
        obtain ⟨y, hy⟩ : ∃ y, b[b.size - 1 - k]'(by omega) = y := ⟨_, rfl⟩
        rw [hy] at hxb hdb
        have HYB : Hid _ := hxb
        have i1b : (0 : Int) ≤ (b.size : Int) - 1 - k := by omega
        have i2b : (b.size : Int) - 1 - k < (b.size : Int) := by omega
        have x0b : 48 ≤ (y.toNat : Int) := by omega
        have x9b : (y.toNat : Int) ≤ 57 := by omega
        clear hxb
        go_wp2_with fail
        · have hrow2 : wr.ownsRow w.heap.size 5 1 (sl w.heap.size a.size) a.size (bcs L) := HROW.out
          obtain ⟨z, hz⟩ : ∃ z : UInt8, (z.toNat : Int) = 48 + ((x.toNat : Int) - 48 - c - ((y.toNat : Int) - 48) + 10) := ⟨UInt8.ofNat (48 + ((x.toNat : Int) - 48 - c - ((y.toNat : Int) - 48) + 10)).toNat, by rw [UInt8.toNat_ofNat']; omega⟩
          have hst := hrow2.stored (a.size - 1 - k) (.int .u8 (48 + ((x.toNat : Int) - 48 - c - ((y.toNat : Int) - 48) + 10)))
          rw [show (bcs L).set (a.size - 1 - k) (.int .u8 (48 + ((x.toNat : Int) - 48 - c - ((y.toNat : Int) - 48) + 10))) = bcs (L.set (a.size - 1 - k) z) by rw [← bcs_set, hz]] at hst
          have had := sub_step HSUB.out (by omega) z 1 ((x.toNat : Int) - 48 - c - ((y.toNat : Int) - 48) + 10).toNat (by omega) (by omega) (by rw [HXA.out, HYB.out]; omega)
          rw [show L.length - 1 - k = a.size - 1 - k by omega] at had
          have hkg := HKG.out
          go_roundg (gk - 1)
          case measure => omega
          case rel => exact ⟨k + 1, 1, L.set (a.size - 1 - k) z, rfl, by go_num, by omega, by omega, by rw [List.length_set]; exact hL, had, hst.1, HBEL.out.setCell (p := ⟨w.heap.size, a.size - 1 - k, none⟩) (Nat.le_refl _) _⟩
        · have hrow2 : wr.ownsRow w.heap.size 5 1 (sl w.heap.size a.size) a.size (bcs L) := HROW.out
          obtain ⟨z, hz⟩ : ∃ z : UInt8, (z.toNat : Int) = 48 + ((x.toNat : Int) - 48 - c - ((y.toNat : Int) - 48)) := ⟨UInt8.ofNat (48 + ((x.toNat : Int) - 48 - c - ((y.toNat : Int) - 48))).toNat, by rw [UInt8.toNat_ofNat']; omega⟩
          have hst := hrow2.stored (a.size - 1 - k) (.int .u8 (48 + ((x.toNat : Int) - 48 - c - ((y.toNat : Int) - 48))))
          rw [show (bcs L).set (a.size - 1 - k) (.int .u8 (48 + ((x.toNat : Int) - 48 - c - ((y.toNat : Int) - 48)))) = bcs (L.set (a.size - 1 - k) z) by rw [← bcs_set, hz]] at hst
          have had := sub_step HSUB.out (by omega) z 0 ((x.toNat : Int) - 48 - c - ((y.toNat : Int) - 48)).toNat (by omega) (by omega) (by rw [HXA.out, HYB.out]; omega)
          rw [show L.length - 1 - k = a.size - 1 - k by omega] at had
          have hkg := HKG.out
          go_roundg (gk - 1)
          case measure => omega
          case rel => exact ⟨k + 1, 0, L.set (a.size - 1 - k) z, rfl, by go_num, by omega, by omega, by rw [List.length_set]; exact hL, had, hst.1, HBEL.out.setCell (p := ⟨w.heap.size, a.size - 1 - k, none⟩) (Nat.le_refl _) _⟩
      · go_wp2_with fail
        · have hrow2 : wr.ownsRow w.heap.size 5 1 (sl w.heap.size a.size) a.size (bcs L) := HROW.out
          obtain ⟨z, hz⟩ : ∃ z : UInt8, (z.toNat : Int) = 48 + ((x.toNat : Int) - 48 - c + 10) := ⟨UInt8.ofNat (48 + ((x.toNat : Int) - 48 - c + 10)).toNat, by rw [UInt8.toNat_ofNat']; omega⟩
          have hst := hrow2.stored (a.size - 1 - k) (.int .u8 (48 + ((x.toNat : Int) - 48 - c + 10)))
          rw [show (bcs L).set (a.size - 1 - k) (.int .u8 (48 + ((x.toNat : Int) - 48 - c + 10))) = bcs (L.set (a.size - 1 - k) z) by rw [← bcs_set, hz]] at hst
          have had := sub_step HSUB.out (by omega) z 1 ((x.toNat : Int) - 48 - c + 10).toNat (by omega) (by omega) (by rw [HXA.out, dk_out b k hks]; omega)
          rw [show L.length - 1 - k = a.size - 1 - k by omega] at had
          have hkg := HKG.out
          go_roundg (gk - 1)
          case measure => omega
          case rel => exact ⟨k + 1, 1, L.set (a.size - 1 - k) z, rfl, by go_num, by omega, by omega, by rw [List.length_set]; exact hL, had, hst.1, HBEL.out.setCell (p := ⟨w.heap.size, a.size - 1 - k, none⟩) (Nat.le_refl _) _⟩
        · have hrow2 : wr.ownsRow w.heap.size 5 1 (sl w.heap.size a.size) a.size (bcs L) := HROW.out
          obtain ⟨z, hz⟩ : ∃ z : UInt8, (z.toNat : Int) = 48 + ((x.toNat : Int) - 48 - c) := ⟨UInt8.ofNat (48 + ((x.toNat : Int) - 48 - c)).toNat, by rw [UInt8.toNat_ofNat']; omega⟩
          have hst := hrow2.stored (a.size - 1 - k) (.int .u8 (48 + ((x.toNat : Int) - 48 - c)))
          rw [show (bcs L).set (a.size - 1 - k) (.int .u8 (48 + ((x.toNat : Int) - 48 - c))) = bcs (L.set (a.size - 1 - k) z) by rw [← bcs_set, hz]] at hst
          have had := sub_step HSUB.out (by omega) z 0 ((x.toNat : Int) - 48 - c).toNat (by omega) (by omega) (by rw [HXA.out, dk_out b k hks]; omega)
          rw [show L.length - 1 - k = a.size - 1 - k by omega] at had
          have hkg := HKG.out
          go_roundg (gk - 1)
          case measure => omega
          case rel => exact ⟨k + 1, 0, L.set (a.size - 1 - k) z, rfl, by go_num, by omega, by omega, by rw [List.length_set]; exact hL, had, hst.1, HBEL.out.setCell (p := ⟨w.heap.size, a.size - 1 - k, none⟩) (Nat.le_refl _) _⟩
    · obtain rfl : k = a.size := by omega
      have hal : a.data.toList.length = a.size := (Lib.size_eq a).symm
      have hsub : Sub a.data.toList b.data.toList L a.data.toList.length c := by rw [hal]; exact HSUB.out
      have hend := sub_end (by rw [hal]; exact hL) (by rw [hal, ← Lib.size_eq]; exact hba) HV.out hsub
      have cS := strip_any w.heap.size w.heap.size a.size L wr (by omega) hL hrow
      rw [trim_mag hend.1, hend.2] at cS
      clear hrow hend hkg hsub hal
      go_wp2_with (first | (go_at_call 39; go_fit cS; rintro e w' ⟨rfl, hw⟩; replace hw := hw.symm; subst hw) | fail)
      go_ret
      exact ⟨rfl, HBEL.out⟩
end Go.Proofs.Qxb6606029aDoor
