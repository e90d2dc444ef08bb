/-
  stripLeft, addMag, subMag, cmpMag, signedText, utoaMag: by their contracts.
-/
import Derived.Test.Qxb6606029aDoorRow
import Derived.Test.Qxb6606029aDoorMag
namespace Go.Proofs.Qxb6606029aDoor
open Go.RowKit Go.Joins

theorem bcs_get (l : List UInt8) (k : Nat) : (bcs l)[k]? = l[k]?.map fun c => Value.int .u8 (c.toNat : Int) := by simp [bcs]
theorem bcs_set (l : List UInt8) (k : Nat) (c : UInt8) : (bcs l).set k (.int .u8 (c.toNat : Int)) = bcs (l.set k c) := by simp [bcs, List.map_set]
/-- The row at a block, its own. -/
abbrev sl (g n : Nat) : Value := .slice (some ⟨g, 0, none⟩) n n
theorem own_cell {w : World} {B g n : Nat} {L : List UInt8} (h : w.ownsRow B 5 1 (sl g n) n (bcs L)) (j : Nat) (hj : j < L.length) : w.cell? ⟨g, j, none⟩ = some (.int .u8 (L[j].toNat : Int)) := by
  have hl := h.1
  rw [bcs_length, Nat.mul_one] at hl
  rw [h.cellAt j (by omega), bcs_get, List.getElem?_eq_getElem hj]
  rfl
theorem own_conv {w : World} {B g n : Nat} {L : List UInt8} (h : w.ownsRow B 5 1 (sl g n) n (bcs L)) (i cap : Nat) (hi : i ≤ L.length) : (convert 46 9 (.slice (some ⟨g, i, none⟩) (L.length - i) cap)).run Tryd.prog w = .ok (.string ⟨(L.drop i).toArray⟩) w := by
  have hh := run_convert_bytes_back w 46 9 5 ⟨g, i, none⟩ cap (L.drop i) Tryd.underlying46 Tryd.underlying5 Tryd.underlying9 (fun j hj => by
    have hj' : i + j < L.length := by rw [List.length_drop] at hj; omega
    rw [show (⟨g, i, none⟩ : Addr).add j = ⟨g, i + j, none⟩ by unfold Addr.add; by_cases h : j = 0 <;> simp [h], own_cell h (i + j) hj']
    rw [List.getElem_drop])
  rw [List.length_drop] at hh
  exact hh

set_option maxHeartbeats 1000000 in
set_option maxRecDepth 100000 in
theorem strip_any (B g n : Nat) (L : List UInt8) (w : World) (hn : n ≤ 100000000) (hl : L.length = n) (ho : w.ownsRow B 5 1 (sl g n) n (bcs L)) :
    Calls Tryd.prog 39 #[sl g n] w fun e w' => e = .returned (.string ⟨(Lib.trimLeftB L 48).toArray⟩) ∧ w' = w := by
  go_enter Tryd.func39, Tryd.ntmps39
  go_wp2_with fail
  go_loopg [3] n (fun gg vi wr => ∃ i : Nat, vi = .int .i64 i ∧ i + gg = n ∧ wr = w ∧ Lib.trimLeftB (L.drop i) 48 = Lib.trimLeftB L 48)
  case atStart => exact ⟨0, rfl, by omega, rfl, rfl⟩
  case round =>
    obtain ⟨i, rfl, hig, hw, ht⟩ := hrel
    subst hw
    have HT : Hid _ := ht
    have hcv := own_conv ho i (n - i) (by omega)
    rw [hl] at hcv
    clear ht
    by_cases hi : i < n
    · have hce := own_cell ho i (by omega)
      have hdr : L.drop i = L[i]'(by omega) :: L.drop (i + 1) := List.drop_eq_getElem_cons (by omega)
      obtain ⟨x, hx⟩ : ∃ x, L[i]'(by omega) = x := ⟨_, rfl⟩
      rw [hx] at hce hdr
      have HDR : Hid _ := hdr
      clear hdr
      by_cases h48 : x = 48
      · subst h48
        clear hcv
        go_wp2_with fail
        go_roundg (gk - 1)
        case measure => omega
        case rel =>
          refine ⟨i + 1, by go_num, by omega, rfl, ?_⟩
          rw [← HT.out, HDR.out, trim_cons, if_pos rfl]
      · have n48 : ((x.toNat : Int) == 48) = false := byte_ne x 48 h48
        have hr : Lib.trimLeftB L 48 = L.drop i := by rw [← HT.out, HDR.out, trim_cons, if_neg h48]
        have HR : Hid _ := hr
        clear hr
        go_wp2_with fail
        go_ret
        exact ⟨by rw [HR.out]; rfl, rfl⟩
    · obtain rfl : i = n := by omega
      have hr : Lib.trimLeftB L 48 = [] := by
        rw [← HT.out, List.drop_of_length_le (by omega)]
        rfl
      clear hcv
      have hcv := run_convert_bytes_back (P := Tryd.prog) wr 46 9 5 ⟨g, 0, none⟩ 0 [] Tryd.underlying46 Tryd.underlying5 Tryd.underlying9 (fun j hj => absurd hj (by simp))
      rw [List.length_nil] at hcv
      have HR : Hid _ := hr
      clear hr hig hi HT
      go_wp2_with fail
      go_ret
      exact ⟨by rw [HR.out]; rfl, rfl⟩

theorem signed_any (neg : Bool) (u : Nat) (w : World) (hu : (mag u).length ≤ 100000000) :
    Calls Tryd.prog 22 #[.bool neg, .string ⟨(mag u).toArray⟩] w fun e w' => e = .returned (.string ⟨(Lib.itoa (if neg then -(u : Int) else u)).toArray⟩) ∧ w' = w := by
  by_cases h0 : u = 0
  · subst h0
    have hr : (⟨(Lib.itoa (if neg then -((0 : Nat) : Int) else ((0 : Nat) : Int))).toArray⟩ : ByteArray) = ⟨#[48]⟩ := by
      have : (if neg then -((0 : Nat) : Int) else ((0 : Nat) : Int)) = ((0 : Nat) : Int) := by cases neg <;> rfl
      rw [this, Lib.itoa_nonneg, decDigits_small (by decide)]
      rfl
    rw [hr]
    go_enter Tryd.func22, Tryd.ntmps22
    go_wp2_with fail
    go_ret
    exact ⟨rfl, rfl⟩
  · obtain ⟨S, hS⟩ : ∃ S : ByteArray, ⟨(mag u).toArray⟩ = S := ⟨_, rfl⟩
    have hsz : 0 < S.size := by
      rw [← hS, Lib.size_mk]
      apply List.length_pos_iff.2
      intro e
      have := val_mag u
      rw [e] at this
      exact h0 this.symm
    have hne := toList_ne S hsz
    have hs2 : S.size ≤ 100000000 := by rw [← hS, Lib.size_mk]; exact hu
    have hm : Lib.decDigits u = mag u := (mag_pos (by omega)).symm
    rw [hS]
    cases neg with
    | true =>
      have hr : (⟨(Lib.itoa (if true = true then -(u : Int) else u)).toArray⟩ : ByteArray) = ⟨#[45]⟩ ++ S := by
        rw [if_pos rfl, Lib.itoa_neg _ (by omega), hm, ← hS]
        exact (ba_append [45] _).symm
      rw [hr]
      clear hr hm hS
      go_enter Tryd.func22, Tryd.ntmps22
      go_wp2_with fail
      go_ret
      exact ⟨rfl, rfl⟩
    | false =>
      have hr : (⟨(Lib.itoa (if false = true then -(u : Int) else u)).toArray⟩ : ByteArray) = S := by
        rw [if_neg (by decide), Lib.itoa_nonneg, hm, ← hS]
      rw [hr]
      clear hr hm hS
      go_enter Tryd.func22, Tryd.ntmps22
      go_wp2_with fail
      go_ret
      exact ⟨rfl, rfl⟩
end Go.Proofs.Qxb6606029aDoor
