/-
  addMag and subMag, by their contracts.
-/
import Derived.Test.Qxb6606029aDoorMags
namespace Go.Proofs.Qxb6606029aDoor
open Go.RowKit Go.Joins

theorem Tryd.info5 : (Tryd.prog.info? 5).map (fun i => (i.zero, i.size, i.bytes)) = some (some (.int .u8 0), 1, 1) := by kernel_rfl

theorem dk_at (a : ByteArray) (k : Nat) (h : k < a.size) : dk a.data.toList k = (a[a.size - 1 - k]'(by omega)).toNat - 48 := by
  unfold dk
  have hl : a.data.toList.length = a.size := (Lib.size_eq a).symm
  rw [dif_pos (by omega)]
  congr 2
theorem dk_out (a : ByteArray) (k : Nat) (h : ¬ k < a.size) : dk a.data.toList k = 0 := by
  unfold dk
  have hl : a.data.toList.length = a.size := (Lib.size_eq a).symm
  rw [dif_neg (by omega)]
theorem dig_at {a : ByteArray} (h : digs a.data.toList = true) (i : Nat) (hi : i < a.size) : 48 ≤ a[i].toNat ∧ a[i].toNat ≤ 57 := by
  have hd := drop_at a i hi
  have hm : a[i] ∈ a.data.toList := List.mem_of_mem_drop (i := i) (by rw [hd]; exact List.mem_cons_self)
  exact digs_mem h hm

theorem add_end {a b L : List UInt8} {c n : Nat} (hL : L.length = n + 1) (ha : a.length ≤ n) (hb : b.length ≤ n) (h : Add a b L n c) (hc : c ≤ 1) (y : UInt8) (hy : y.toNat = 48 + c) : Lib.trimLeftB (L.set 0 y) 48 = mag (val a + val b) := by
  obtain ⟨h1, h2⟩ := h
  have e := set_tl L n y (by omega)
  rw [show L.length - 1 - n = 0 by omega, tl_all _ _ (by rw [List.length_set]; omega)] at e
  rw [tl_all a _ ha, tl_all b _ hb] at h2
  rw [e, trim_mag (by rw [digs_cons_iff]; exact ⟨by omega, h1⟩), val_cons, tl_length L n (by omega), h2]
  congr 3
  omega

set_option maxHeartbeats 4000000 in
set_option maxRecDepth 100000 in
theorem add_a (a b : ByteArray) (w : World) (hba : ¬ a.size < b.size) (hsz : a.size ≤ 10000000) (ha : digs a.data.toList = true) (hb : digs b.data.toList = true) :
    Calls Tryd.prog 23 #[.string a, .string b] w fun e w' => e = .returned (.string ⟨(mag (val a.data.toList + val b.data.toList)).toArray⟩) ∧ Below w.heap.size w w' := by
  obtain ⟨i0, hi, hz0, hz1, hz2⟩ := info_parts Tryd.info5
  have HA : Hid _ := ha
  have HB : Hid _ := hb
  clear ha hb
  go_enter Tryd.func23, Tryd.ntmps23
  go_wp2_with (at_make; refine wpList_make_full _ rfl (.tmp 19) (.tmp 19) 46 rfl w.heap.size 5 i0 (.int .u8 0) 1 Tryd.underlying46 hi hz0 hz1 _ _ _ _ (a.size + 1) rfl rfl (by omega) (by omega) (by rw [hz2]; omega) (by unfold maxLen; omega) (Nat.le_refl _) ?_)
  intro w1 ho1 hg1
  rw [toList_madeCells_one] at ho1
  have hA1 : w1.ownsRow w.heap.size 5 1 (sl w.heap.size (a.size + 1)) (a.size + 1) (bcs (List.replicate (a.size + 1) 0)) := by
    rw [bcs, List.map_replicate]
    exact ho1
  have hb1 : Below w.heap.size w w1 := (Below.refl _ _).grown hg1 (Nat.le_refl _) (fun k hk => by cases hk)
  have HA1 : Hid _ := hA1
  have HB1 : Hid _ := hb1
  clear ho1 hg1 hA1 hb1
  go_wp2_with fail
  go_loopg [7, 8] a.size (fun gg vc vk wr => ∃ (k c : Nat) (L : List UInt8), vc = .int .i64 c ∧ vk = .int .i64 k ∧ k + gg = a.size ∧ c ≤ 1 ∧ L.length = a.size + 1 ∧ Add a.data.toList b.data.toList L k c ∧ wr.ownsRow w.heap.size 5 1 (sl w.heap.size (a.size + 1)) (a.size + 1) (bcs L) ∧ Below w.heap.size w wr)
  case atStart =>
    refine ⟨0, 0, List.replicate (a.size + 1) 0, rfl, rfl, by omega, by omega, by simp, ?_, HA1.out, HB1.out⟩
    unfold Add
    rw [tl_zero, tl_zero, tl_zero]
    exact ⟨rfl, rfl⟩
  case round =>
    clear HA1 HB1
    obtain ⟨k, c, L, rfl, rfl, hkg, hc1, hL, hadd, hrow, hbel⟩ := hrel
    have HKG : Hid _ := hkg
    have HADD : Hid _ := hadd
    have HBEL : Hid _ := hbel
    clear hadd hbel
    by_cases hk : k < a.size
    · clear hkg
      have hxa := dk_at a k hk
      have hda := dig_at HA.out (a.size - 1 - k) (by omega)
      obtain ⟨x, hx⟩ : ∃ x, a[a.size - 1 - k]'(by omega) = x := ⟨_, rfl⟩
      rw [hx] at hxa hda
      have HXA : Hid _ := hxa
      have i1a : (0 : Int) ≤ (a.size : Int) - 1 - k := by omega
      have i2a : (a.size : Int) - 1 - k < (a.size : Int) := by omega
      have x0a : 48 ≤ (x.toNat : Int) := by omega
      have x9a : (x.toNat : Int) ≤ 57 := by omega
      clear hxa
      have hce := own_cell hrow (a.size - k) (by omega)
      have hfz := hrow.frozenAt (a.size - k)
      have j1 : (0 : Int) ≤ (a.size : Int) - k := by omega
      have j2 : (a.size : Int) - k < (a.size : Int) + 1 := by omega
      have HROW : Hid _ := hrow
      clear hrow
      by_cases hks : k < b.size
      · have hxb := dk_at b k hks
        have hdb := dig_at HB.out (b.size - 1 - k) (by omega)
        obtain ⟨y, hy⟩ : ∃ y, b[b.size - 1 - k]'(by omega) = y := ⟨_, rfl⟩
        rw [hy] at hxb hdb
        have HYB : Hid _ := hxb
        have i1b : (0 : Int) ≤ (b.size : Int) - 1 - k := by omega
        have i2b : (b.size : Int) - 1 - k < (b.size : Int) := by omega
        have x0b : 48 ≤ (y.toNat : Int) := by omega
        have x9b : (y.toNat : Int) ≤ 57 := by omega
        clear hxb
        go_wp2_with fail
        obtain ⟨z, hz⟩ : ∃ z : UInt8, z.toNat = 48 + (c + (x.toNat - 48) + (y.toNat - 48)) % 10 := ⟨UInt8.ofNat (48 + (c + (x.toNat - 48) + (y.toNat - 48)) % 10), by rw [UInt8.toNat_ofNat']; omega⟩
        have e1 : ((c : Int) + ((x.toNat : Int) - 48) + ((y.toNat : Int) - 48)) / 10 = (((c + (x.toNat - 48) + (y.toNat - 48)) / 10 : Nat) : Int) := by omega
        have e2 : 48 + ((c : Int) + ((x.toNat : Int) - 48) + ((y.toNat : Int) - 48)) % 10 = (z.toNat : Int) := by omega
        rw [e1, e2]
        have hrow2 : wr.ownsRow w.heap.size 5 1 (sl w.heap.size (a.size + 1)) (a.size + 1) (bcs L) := HROW.out
        have hst := hrow2.stored (a.size - k) (.int .u8 (z.toNat : Int))
        rw [bcs_set] at hst
        have had := add_step HADD.out (by omega) z ((c + (x.toNat - 48) + (y.toNat - 48)) / 10) ((c + (x.toNat - 48) + (y.toNat - 48)) % 10) (by omega) hz (by rw [HXA.out, HYB.out]; omega)
        rw [show L.length - 1 - k = a.size - k by omega] at had
        have hkg := HKG.out
        go_roundg (gk - 1)
        case measure => omega
        case rel => exact ⟨k + 1, (c + (x.toNat - 48) + (y.toNat - 48)) / 10, L.set (a.size - k) z, rfl, by go_num, by omega, by omega, by rw [List.length_set]; exact hL, had, hst.1, HBEL.out.setCell (p := ⟨w.heap.size, a.size - k, none⟩) (Nat.le_refl _) _⟩
      · go_wp2_with fail
        obtain ⟨z, hz⟩ : ∃ z : UInt8, z.toNat = 48 + (c + (x.toNat - 48)) % 10 := ⟨UInt8.ofNat (48 + (c + (x.toNat - 48)) % 10), by rw [UInt8.toNat_ofNat']; omega⟩
        have e1 : ((c : Int) + ((x.toNat : Int) - 48)) / 10 = (((c + (x.toNat - 48)) / 10 : Nat) : Int) := by omega
        have e2 : 48 + ((c : Int) + ((x.toNat : Int) - 48)) % 10 = (z.toNat : Int) := by omega
        rw [e1, e2]
        have hrow2 : wr.ownsRow w.heap.size 5 1 (sl w.heap.size (a.size + 1)) (a.size + 1) (bcs L) := HROW.out
        have hst := hrow2.stored (a.size - k) (.int .u8 (z.toNat : Int))
        rw [bcs_set] at hst
        have had := add_step HADD.out (by omega) z ((c + (x.toNat - 48)) / 10) ((c + (x.toNat - 48)) % 10) (by omega) hz (by rw [HXA.out, dk_out b k hks]; omega)
        rw [show L.length - 1 - k = a.size - k by omega] at had
        have hkg := HKG.out
        go_roundg (gk - 1)
        case measure => omega
        case rel => exact ⟨k + 1, (c + (x.toNat - 48)) / 10, L.set (a.size - k) z, rfl, by go_num, by omega, by omega, by rw [List.length_set]; exact hL, had, hst.1, HBEL.out.setCell (p := ⟨w.heap.size, a.size - k, none⟩) (Nat.le_refl _) _⟩
    · obtain rfl : k = a.size := by omega
      have hce := own_cell hrow 0 (by omega)
      have hfz := hrow.frozenAt 0
      obtain ⟨z, hz⟩ : ∃ z : UInt8, z.toNat = 48 + c := ⟨UInt8.ofNat (48 + c), by rw [UInt8.toNat_ofNat']; omega⟩
      have hst := hrow.stored 0 (.int .u8 (48 + (c : Int)))
      rw [show (bcs L).set 0 (.int .u8 (48 + (c : Int))) = bcs (L.set 0 z) by rw [← bcs_set]; congr 2; omega] at hst
      have hend := add_end hL (by rw [← Lib.size_eq]; omega) (by rw [← Lib.size_eq]; omega) HADD.out hc1 z hz
      have cS := strip_any w.heap.size w.heap.size (a.size + 1) (L.set 0 z) _ (by omega) (by rw [List.length_set]; exact hL) hst.1
      rw [hend] at cS
      have HROW : Hid _ := hrow
      clear hrow hst hend hkg hz
      go_wp2_with (first | (go_at_call 39; go_fit cS; rintro e w' ⟨rfl, hw⟩; replace hw := hw.symm; subst hw) | fail)
      go_ret
      exact ⟨rfl, HBEL.out.setCell (p := ⟨w.heap.size, 0, none⟩) (Nat.le_refl _) _⟩

set_option maxHeartbeats 4000000 in
set_option maxRecDepth 100000 in
theorem add_b (a b : ByteArray) (w : World) (hba : a.size < b.size) (hsz : b.size ≤ 10000000) (ha : digs a.data.toList = true) (hb : digs b.data.toList = true) :
    Calls Tryd.prog 23 #[.string a, .string b] w fun e w' => e = .returned (.string ⟨(mag (val a.data.toList + val b.data.toList)).toArray⟩) ∧ Below w.heap.size w w' := by
  obtain ⟨i0, hi, hz0, hz1, hz2⟩ := info_parts Tryd.info5
  have HA : Hid _ := ha
  have HB : Hid _ := hb
  clear ha hb
  go_enter Tryd.func23, Tryd.ntmps23
  go_wp2_with (at_make; refine wpList_make_full _ rfl (.tmp 19) (.tmp 19) 46 rfl w.heap.size 5 i0 (.int .u8 0) 1 Tryd.underlying46 hi hz0 hz1 _ _ _ _ (b.size + 1) rfl rfl (by omega) (by omega) (by rw [hz2]; omega) (by unfold maxLen; omega) (Nat.le_refl _) ?_)
  intro w1 ho1 hg1
  rw [toList_madeCells_one] at ho1
  have hA1 : w1.ownsRow w.heap.size 5 1 (sl w.heap.size (b.size + 1)) (b.size + 1) (bcs (List.replicate (b.size + 1) 0)) := by
    rw [bcs, List.map_replicate]
    exact ho1
  have hb1 : Below w.heap.size w w1 := (Below.refl _ _).grown hg1 (Nat.le_refl _) (fun k hk => by cases hk)
  have HA1 : Hid _ := hA1
  have HB1 : Hid _ := hb1
  clear ho1 hg1 hA1 hb1
  go_wp2_with fail
  go_loopg [7, 8] b.size (fun gg vc vk wr => ∃ (k c : Nat) (L : List UInt8), vc = .int .i64 c ∧ vk = .int .i64 k ∧ k + gg = b.size ∧ c ≤ 1 ∧ L.length = b.size + 1 ∧ Add a.data.toList b.data.toList L k c ∧ wr.ownsRow w.heap.size 5 1 (sl w.heap.size (b.size + 1)) (b.size + 1) (bcs L) ∧ Below w.heap.size w wr)
  case atStart =>
    refine ⟨0, 0, List.replicate (b.size + 1) 0, rfl, rfl, by omega, by omega, by simp, ?_, HA1.out, HB1.out⟩
    unfold Add
    rw [tl_zero, tl_zero, tl_zero]
    exact ⟨rfl, rfl⟩
  case round =>
    clear HA1 HB1
    obtain ⟨k, c, L, rfl, rfl, hkg, hc1, hL, hadd, hrow, hbel⟩ := hrel
    have HKG : Hid _ := hkg
    have HADD : Hid _ := hadd
    have HBEL : Hid _ := hbel
    clear hadd hbel
    by_cases hk : k < b.size
    · clear hkg
      have hxb := dk_at b k hk
      have hdb := dig_at HB.out (b.size - 1 - k) (by omega)
      obtain ⟨y, hy⟩ : ∃ y, b[b.size - 1 - k]'(by omega) = y := ⟨_, rfl⟩
      rw [hy] at hxb hdb
      have HYB : Hid _ := hxb
      have i1b : (0 : Int) ≤ (b.size : Int) - 1 - k := by omega
      have i2b : (b.size : Int) - 1 - k < (b.size : Int) := by omega
      have x0b : 48 ≤ (y.toNat : Int) := by omega
      have x9b : (y.toNat : Int) ≤ 57 := by omega
      clear hxb
      have hce := own_cell hrow (b.size - k) (by omega)
      have hfz := hrow.frozenAt (b.size - k)
      have j1 : (0 : Int) ≤ (b.size : Int) - k := by omega
      have j2 : (b.size : Int) - k < (b.size : Int) + 1 := by omega
      have HROW : Hid _ := hrow
      clear hrow
      by_cases hks : k < a.size
      · have hxa := dk_at a k hks
        have hda := dig_at HA.out (a.size - 1 - k) (by omega)
        obtain ⟨x, hx⟩ : ∃ x, a[a.size - 1 - k]'(by omega) = x := ⟨_, rfl⟩
        rw [hx] at hxa hda
        have HXA : Hid _ := hxa
        have i1a : (0 : Int) ≤ (a.size : Int) - 1 - k := by omega
        have i2a : (a.size : Int) - 1 - k < (a.size : Int) := by omega
        have x0a : 48 ≤ (x.toNat : Int) := by omega
        have x9a : (x.toNat : Int) ≤ 57 := by omega
        clear hxa
        go_wp2_with fail
        obtain ⟨z, hz⟩ : ∃ z : UInt8, z.toNat = 48 + (c + (x.toNat - 48) + (y.toNat - 48)) % 10 := ⟨UInt8.ofNat (48 + (c + (x.toNat - 48) + (y.toNat - 48)) % 10), by rw [UInt8.toNat_ofNat']; omega⟩
        have e1 : ((c : Int) + ((x.toNat : Int) - 48) + ((y.toNat : Int) - 48)) / 10 = (((c + (x.toNat - 48) + (y.toNat - 48)) / 10 : Nat) : Int) := by omega
        have e2 : 48 + ((c : Int) + ((x.toNat : Int) - 48) + ((y.toNat : Int) - 48)) % 10 = (z.toNat : Int) := by omega
        rw [e1, e2]
        have hrow2 : wr.ownsRow w.heap.size 5 1 (sl w.heap.size (b.size + 1)) (b.size + 1) (bcs L) := HROW.out
        have hst := hrow2.stored (b.size - k) (.int .u8 (z.toNat : Int))
        rw [bcs_set] at hst
        have had := add_step HADD.out (by omega) z ((c + (x.toNat - 48) + (y.toNat - 48)) / 10) ((c + (x.toNat - 48) + (y.toNat - 48)) % 10) (by omega) hz (by rw [HXA.out, HYB.out]; omega)
        rw [show L.length - 1 - k = b.size - k by omega] at had
        have hkg := HKG.out
        go_roundg (gk - 1)
        case measure => omega
        case rel => exact ⟨k + 1, (c + (x.toNat - 48) + (y.toNat - 48)) / 10, L.set (b.size - k) z, rfl, by go_num, by omega, by omega, by rw [List.length_set]; exact hL, had, hst.1, HBEL.out.setCell (p := ⟨w.heap.size, b.size - k, none⟩) (Nat.le_refl _) _⟩
      · go_wp2_with fail
        obtain ⟨z, hz⟩ : ∃ z : UInt8, z.toNat = 48 + (c + (y.toNat - 48)) % 10 := ⟨UInt8.ofNat (48 + (c + (y.toNat - 48)) % 10), by rw [UInt8.toNat_ofNat']; omega⟩
        have e1 : ((c : Int) + ((y.toNat : Int) - 48)) / 10 = (((c + (y.toNat - 48)) / 10 : Nat) : Int) := by omega
        have e2 : 48 + ((c : Int) + ((y.toNat : Int) - 48)) % 10 = (z.toNat : Int) := by omega
        rw [e1, e2]
        have hrow2 : wr.ownsRow w.heap.size 5 1 (sl w.heap.size (b.size + 1)) (b.size + 1) (bcs L) := HROW.out
        have hst := hrow2.stored (b.size - k) (.int .u8 (z.toNat : Int))
        rw [bcs_set] at hst
        have had := add_step HADD.out (by omega) z ((c + (y.toNat - 48)) / 10) ((c + (y.toNat - 48)) % 10) (by omega) hz (by rw [dk_out a k hks, HYB.out]; omega)
        rw [show L.length - 1 - k = b.size - k by omega] at had
        have hkg := HKG.out
        go_roundg (gk - 1)
        case measure => omega
        case rel => exact ⟨k + 1, (c + (y.toNat - 48)) / 10, L.set (b.size - k) z, rfl, by go_num, by omega, by omega, by rw [List.length_set]; exact hL, had, hst.1, HBEL.out.setCell (p := ⟨w.heap.size, b.size - k, none⟩) (Nat.le_refl _) _⟩
    · obtain rfl : k = b.size := by omega
      have hce := own_cell hrow 0 (by omega)
      have hfz := hrow.frozenAt 0
      obtain ⟨z, hz⟩ : ∃ z : UInt8, z.toNat = 48 + c := ⟨UInt8.ofNat (48 + c), by rw [UInt8.toNat_ofNat']; omega⟩
      have hst := hrow.stored 0 (.int .u8 (48 + (c : Int)))
      rw [show (bcs L).set 0 (.int .u8 (48 + (c : Int))) = bcs (L.set 0 z) by rw [← bcs_set]; congr 2; omega] at hst
      have hend := add_end hL (by rw [← Lib.size_eq]; omega) (by rw [← Lib.size_eq]; omega) HADD.out hc1 z hz
      have cS := strip_any w.heap.size w.heap.size (b.size + 1) (L.set 0 z) _ (by omega) (by rw [List.length_set]; exact hL) hst.1
      rw [hend] at cS
      have HROW : Hid _ := hrow
      clear hrow hst hend hkg hz
      go_wp2_with (first | (go_at_call 39; go_fit cS; rintro e w' ⟨rfl, hw⟩; replace hw := hw.symm; subst hw) | fail)
      go_ret
      exact ⟨rfl, HBEL.out.setCell (p := ⟨w.heap.size, 0, none⟩) (Nat.le_refl _) _⟩

theorem add_any (a b : ByteArray) (w : World) (hsa : a.size ≤ 10000000) (hsb : b.size ≤ 10000000) (ha : digs a.data.toList = true) (hb : digs b.data.toList = true) :
    Calls Tryd.prog 23 #[.string a, .string b] w fun e w' => e = .returned (.string ⟨(mag (val a.data.toList + val b.data.toList)).toArray⟩) ∧ Below w.heap.size w w' := by
  by_cases h : a.size < b.size
  · exact add_b a b w h hsb ha hb
  · exact add_a a b w h hsa ha hb
end Go.Proofs.Qxb6606029aDoor
