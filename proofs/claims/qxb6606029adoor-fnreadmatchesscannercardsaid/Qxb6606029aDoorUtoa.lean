/-
  utoaMag and modelSum, by their contracts.
-/
import Derived.Test.Qxb6606029aDoorCmp
import Derived.Test.Qxb6606029aDoorSub
namespace Go.Proofs.Qxb6606029aDoor
open Go.RowKit Go.Joins

/-- The bytes l are the block g. -/
def Arr (w : World) (g : Nat) (l : List UInt8) : Prop := ∃ cur t, w.heap[g]? = some (.cells cur t (0, 0)) ∧ cur.toList = bcs l
theorem Arr.cell {w : World} {g : Nat} {l : List UInt8} (h : Arr w g l) (j : Nat) (hj : j < l.length) : w.cell? ⟨g, j, none⟩ = some (.int .u8 (l[j].toNat : Int)) := by
  obtain ⟨cur, t, h1, h2⟩ := h
  rw [cell_of_row w g j cur t (0, 0) h1, ← Array.getElem?_toList, h2]
  simp [bcs, hj]
theorem Arr.frozen {w : World} {g : Nat} {l : List UInt8} (h : Arr w g l) (j : Nat) : w.frozen? ⟨g, j, none⟩ = false := by
  obtain ⟨cur, t, h1, h2⟩ := h
  exact frozen_of_row w g j cur t h1
theorem Arr.set {w : World} {g : Nat} {l : List UInt8} (h : Arr w g l) (j : Nat) (c : UInt8) : Arr (w.setCell ⟨g, j, none⟩ (.int .u8 (c.toNat : Int))) g (l.set j c) := by
  obtain ⟨cur, t, h1, h2⟩ := h
  refine ⟨cur.setIfInBounds j (.int .u8 (c.toNat : Int)), t, heap_setCell_same w g j cur t _ h1, ?_⟩
  rw [Array.toList_setIfInBounds, h2, bcs_set]
theorem Arr.conv {w : World} {g : Nat} {L : List UInt8} (h : Arr w g L) (i cap : Nat) (hi : i ≤ L.length) : (convert 46 9 (.slice (some ⟨g, i, none⟩) (L.length - i) cap)).run Tryd.prog w = .ok (.string ⟨(L.drop i).toArray⟩) w := by
  have hh := run_convert_bytes_back w 46 9 5 ⟨g, i, none⟩ cap (L.drop i) Tryd.underlying46 Tryd.underlying5 Tryd.underlying9 (fun j hj => by
    have hj' : i + j < L.length := by rw [List.length_drop] at hj; omega
    rw [show (⟨g, i, none⟩ : Addr).add j = ⟨g, i + j, none⟩ by unfold Addr.add; by_cases h : j = 0 <;> simp [h], h.cell (i + j) hj']
    rw [List.getElem_drop])
  rw [List.length_drop] at hh
  exact hh

theorem Arr.conv2 {w : World} {g : Nat} {L : List UInt8} (h : Arr w g L) (i n cap : Nat) (hi : L.length = i + n) : (convert 46 9 (.slice (some ⟨g, i, none⟩) n cap)).run Tryd.prog w = .ok (.string ⟨(L.drop i).toArray⟩) w := by
  have := h.conv i cap (by omega)
  rw [show L.length - i = n by omega] at this
  exact this

set_option maxHeartbeats 4000000 in
set_option maxRecDepth 100000 in
theorem utoa_any (u : Nat) (w : World) (hu : u < 100000000) :
    Calls Tryd.prog 21 #[.int .u64 u] w fun e w' => e = .returned (.string ⟨(mag u).toArray⟩) ∧ Below w.heap.size w w' := by
  go_enter Tryd.func21, Tryd.ntmps21
  go_wp2_with fail
  go_loopg [0, 4] u (fun gg vu vi wr => ∃ (i v : Nat) (L : List UInt8), vu = .int .u64 v ∧ vi = .int .i64 i ∧ v = gg ∧ i ≤ 20 ∧ L.length = 20 ∧ v < 10 ^ (i - 12) ∧ 12 ≤ i ∧ mag u = mag v ++ L.drop i ∧ Arr wr w.heap.size L ∧ Below w.heap.size w wr)
  case atStart =>
    refine ⟨20, u, List.replicate 20 0, rfl, rfl, rfl, by omega, by simp, by omega, by omega, ?_, ⟨_, _, heap_alloc_new w _, ?_⟩, (Below.refl _ w).alloc (Nat.le_refl _) _⟩
    · rw [List.drop_of_length_le (by simp), List.append_nil]
    · rfl
  case round =>
    obtain ⟨i, v, L, rfl, rfl, rfl, hi, hL, hv, hi12, hmg, harr, hbel⟩ := hrel
    have HMG : Hid _ := hmg
    have HBEL : Hid _ := hbel
    have HV : Hid _ := hv
    clear hmg hbel hv
    by_cases h0 : v = 0
    · subst h0
      have hcv := harr.conv i (20 - i) (by omega)
      rw [hL] at hcv
      have hmu : mag u = L.drop i := by
        have := HMG.out
        rw [mag_zero, List.nil_append] at this
        exact this
      have HMU : Hid _ := hmu
      have HARR : Hid _ := harr
      clear harr hmu
      by_cases h20 : i = 20
      · subst h20
        clear hcv
        have hcv := run_convert_bytes_back (P := Tryd.prog) wr 46 9 5 ⟨w.heap.size, 0, none⟩ 0 [] Tryd.underlying46 Tryd.underlying5 Tryd.underlying9 (fun j hj => absurd hj (by simp))
        rw [List.length_nil] at hcv
        go_wp2_with fail
        go_ret
        exact ⟨by rw [HMU.out, List.drop_of_length_le (by omega)]; rfl, HBEL.out⟩
      · have hcs : i = 12 ∨ i = 13 ∨ i = 14 ∨ i = 15 ∨ i = 16 ∨ i = 17 ∨ i = 18 ∨ i = 19 := by omega
        clear hcv
        rcases hcs with rfl | rfl | rfl | rfl | rfl | rfl | rfl | rfl
        · have hcv := Arr.conv2 HARR.out 12 8 8 (by omega)
          go_wp2_with fail
          go_ret
          exact ⟨by rw [HMU.out]; rfl, HBEL.out⟩
        · have hcv := Arr.conv2 HARR.out 13 7 7 (by omega)
          go_wp2_with fail
          go_ret
          exact ⟨by rw [HMU.out]; rfl, HBEL.out⟩
        · have hcv := Arr.conv2 HARR.out 14 6 6 (by omega)
          go_wp2_with fail
          go_ret
          exact ⟨by rw [HMU.out]; rfl, HBEL.out⟩
        · have hcv := Arr.conv2 HARR.out 15 5 5 (by omega)
          go_wp2_with fail
          go_ret
          exact ⟨by rw [HMU.out]; rfl, HBEL.out⟩
        · have hcv := Arr.conv2 HARR.out 16 4 4 (by omega)
          go_wp2_with fail
          go_ret
          exact ⟨by rw [HMU.out]; rfl, HBEL.out⟩
        · have hcv := Arr.conv2 HARR.out 17 3 3 (by omega)
          go_wp2_with fail
          go_ret
          exact ⟨by rw [HMU.out]; rfl, HBEL.out⟩
        · have hcv := Arr.conv2 HARR.out 18 2 2 (by omega)
          go_wp2_with fail
          go_ret
          exact ⟨by rw [HMU.out]; rfl, HBEL.out⟩
        · have hcv := Arr.conv2 HARR.out 19 1 1 (by omega)
          go_wp2_with fail
          go_ret
          exact ⟨by rw [HMU.out]; rfl, HBEL.out⟩
    · have h12 : 12 < i := by
        have hvv := HV.out
        by_cases h : 12 < i
        · exact h
        · rw [show i - 12 = 0 by omega] at hvv
          simp at hvv
          exact absurd hvv h0
      have hce := harr.cell (i - 1) (by omega)
      have hfz := harr.frozen (i - 1)
      have hpos : 0 < (v : Int) := by omega
      have j1 : (0 : Int) ≤ (i : Int) - 1 := by omega
      have j2 : (i : Int) - 1 < 20 := by omega
      have HARR : Hid _ := harr
      clear harr
      have hv8 : v < 100000000 := by
        have hvv := HV.out
        have : 10 ^ (i - 12) ≤ 10 ^ 8 := Nat.pow_le_pow_right (by decide) (by omega)
        omega
      go_wp2_with fail
      obtain ⟨z, hz⟩ : ∃ z : UInt8, UInt8.ofNat (48 + v % 10) = z := ⟨_, rfl⟩
      have hzn : z.toNat = 48 + v % 10 := by rw [← hz, UInt8.toNat_ofNat']; omega
      have e1 : (v : Int) / 10 = ((v / 10 : Nat) : Int) := by omega
      have e2 : 48 + (v : Int) % 10 = (z.toNat : Int) := by omega
      rw [e1, e2]
      go_roundg (v / 10)
      case measure => omega
      case rel =>
        refine ⟨i - 1, v / 10, L.set (i - 1) z, rfl, by congr 1; omega, rfl, by omega, by rw [List.length_set]; exact hL, ?_, by omega, ?_, Arr.set HARR.out (i - 1) z, HBEL.out.setCell (p := ⟨w.heap.size, i - 1, none⟩) (Nat.le_refl _) _⟩
        · have hvv := HV.out
          rw [show i - 12 = (i - 1 - 12) + 1 by omega, Nat.pow_succ] at hvv
          omega
        · rw [HMG.out, mag_step (by omega), hz, List.append_assoc]
          congr 1
          rw [List.drop_eq_getElem_cons (show i - 1 < (L.set (i - 1) z).length by rw [List.length_set]; omega), List.getElem_set_self, List.drop_set_of_lt (by omega), show i - 1 + 1 = i by omega]
          rfl
end Go.Proofs.Qxb6606029aDoor
