/-
  A ROW OF BYTES at a block of the call's own, and decimal.plus's loop over it.
-/
import Derived.Test.Qxb6606029aDoorPlus
import Derived.Laws.OwnMore
import Derived.OwnWalk
import Derived.Deep.RegionWith
import Derived.BigRegion
import Derived.Lib.ItoaLen
import Derived.Laws.IdiomStrings
namespace Go.Proofs.Qxb6606029aDoor
open Go.RowKit Go.Joins

def bcs (l : List UInt8) : List Value := l.map fun c => .int .u8 (c.toNat : Int)
theorem bcs_length (l : List UInt8) : (bcs l).length = l.length := by simp [bcs]
/-- The bytes l lie at the block g, none of them frozen. -/
def Row (w : World) (g : Nat) (l : List UInt8) : Prop := ∃ cur lo hi, w.heap[g]? = some (.cells cur 5 (lo, hi)) ∧ l.length ≤ lo ∧ cur.toList.take l.length = bcs l
theorem Row.lt {w : World} {g : Nat} {l : List UInt8} (h : Row w g l) : g < w.heap.size := by
  obtain ⟨cur, lo, hi, h1, _, _⟩ := h
  exact (Array.getElem?_eq_some_iff.1 h1).1
theorem Row.cell {w : World} {g : Nat} {l : List UInt8} (h : Row w g l) (j : Nat) (hj : j < l.length) : w.cell? ⟨g, j, none⟩ = some (.int .u8 (l[j].toNat : Int)) := by
  obtain ⟨cur, lo, hi, h1, h2, h3⟩ := h
  rw [cell_of_row w g j cur 5 (lo, hi) h1]
  have : (cur.toList.take l.length)[j]? = some (.int .u8 (l[j].toNat : Int)) := by
    rw [h3]
    simp [bcs, hj]
  rw [List.getElem?_take, if_pos hj] at this
  simpa using this
theorem Row.frozen {w : World} {g : Nat} {l : List UInt8} (h : Row w g l) (j : Nat) (hj : j < l.length) : w.frozen? ⟨g, j, none⟩ = false := by
  obtain ⟨cur, lo, hi, h1, h2, h3⟩ := h
  unfold World.frozen?
  rw [h1]
  simp
  omega
theorem Row.set {w : World} {g : Nat} {l : List UInt8} (h : Row w g l) (j : Nat) (c : UInt8) : Row (w.setCell ⟨g, j, none⟩ (.int .u8 (c.toNat : Int))) g (l.set j c) := by
  obtain ⟨cur, lo, hi, h1, h2, h3⟩ := h
  refine ⟨cur.setIfInBounds j (.int .u8 (c.toNat : Int)), lo, hi, ?_, by simpa using h2, ?_⟩
  · unfold World.setCell
    show (w.heap.modify g _)[g]? = _
    rw [Array.getElem?_modify, if_pos rfl, h1]
    rfl
  · rw [Array.toList_setIfInBounds, List.length_set, List.take_set, h3]
    simp [bcs, List.map_set]
theorem Row.below {w w' : World} {g : Nat} {l : List UInt8} (h : Row w g l) (hb : Below w.heap.size w w') : Row w' g l := by
  have hg := h.lt
  obtain ⟨cur, lo, hi, h1, h2, h3⟩ := h
  exact ⟨cur, lo, hi, (hb.block g hg).trans h1, h2, h3⟩
theorem Row.conv {w : World} {g cap : Nat} {l : List UInt8} (h : Row w g l) : (convert 46 9 (.slice (some ⟨g, 0, none⟩) l.length cap)).run Tryd.prog w = .ok (.string ⟨l.toArray⟩) w := by
  refine run_convert_bytes_back w 46 9 5 ⟨g, 0, none⟩ cap l Tryd.underlying46 Tryd.underlying5 Tryd.underlying9 fun j hj => ?_
  rw [show (⟨g, 0, none⟩ : Addr).add j = ⟨g, j, none⟩ by unfold Addr.add; by_cases h : j = 0 <;> simp [h]]
  exact h.cell j hj
/-- '[]byte(s)' -/
theorem conv_bytes (w : World) (s : ByteArray) : ∃ cap w1, (convert 9 46 (.string s)).run Tryd.prog w = .ok (.slice (some ⟨w.heap.size, 0, none⟩) s.size cap) w1 ∧ Row w1 w.heap.size s.data.toList ∧ Below w.heap.size w w1 ∧ w1.heap.size = w.heap.size + 1 := by
  refine ⟨_, _, run_bytes_of_string w 9 46 5 s Tryd.underlying9 Tryd.underlying46 Tryd.underlying5, ?_, ((Below.refl _ _).drew).alloc (by show _ ≤ w.drew.heap.size; exact Nat.le_refl _) _, by simp⟩
  generalize grownCap w s.size 0 5 = cap
  refine ⟨bytesRow s cap, (bytesRow s cap).size, (bytesRow s cap).size + 1, ?_, ?_, ?_⟩
  · exact heap_alloc_new w.drew _
  · simp [bytesRow]
  · simp [bytesRow, bcs]

/-! ### The loop, on lists -/
def Carry (L : List UInt8) (k : Nat) (c T : Int) : Prop := ((val (L.take k) : Int) + c) * (10 ^ (L.length - k) : Nat) + (val (L.drop k) : Int) = T
theorem carry_step (L : List UInt8) (k : Nat) (hk : k < L.length) (hd : digs L = true) (c T : Int) (h : Carry L (k + 1) c T) (y : UInt8) (q r : Int) (hr0 : 0 ≤ r) (hr9 : r ≤ 9) (hy : (y.toNat : Int) = 48 + r)
    (hq : ((L[k].toNat : Int) - 48) + c = 10 * q + r) : digs (L.set k y) = true ∧ Carry (L.set k y) k q T := by
  have hx := digs_mem hd (List.getElem_mem hk)
  constructor
  · refine digs_of fun z hz => ?_
    rcases List.mem_or_eq_of_mem_set hz with hz | rfl
    · exact digs_mem hd hz
    · omega
  · unfold Carry at h ⊢
    have e1 : L.take (k + 1) = L.take k ++ [L[k]] := by rw [List.take_add_one, List.getElem?_eq_getElem hk]; rfl
    have e2 : (L.set k y).take k = L.take k := by rw [List.take_set_of_le (Nat.le_refl k)]
    have e3 : (L.set k y).drop k = y :: L.drop (k + 1) := by
      rw [List.drop_eq_getElem_cons (by simpa using hk), List.getElem_set_self, List.drop_set_of_lt (by omega)]
    rw [e1, val_concat] at h
    rw [e2, e3, val_cons, List.length_set, List.length_drop]
    have e4 : L.length - k = (L.length - (k + 1)) + 1 := by omega
    rw [e4, Nat.pow_succ]
    generalize 10 ^ (L.length - (k + 1)) = P at h ⊢
    generalize val (L.drop (k + 1)) = R at h ⊢
    generalize val (L.take k) = V at h ⊢
    have e5 : ((V * 10 + (L[k].toNat - 48) : Nat) : Int) + c = ((V : Int) + q) * 10 + r := by omega
    have e6 : (((y.toNat - 48) * P + R : Nat) : Int) = r * P + R := by
      rw [show y.toNat - 48 = r.toNat by omega, Int.natCast_add, Int.natCast_mul]
      congr 2
      omega
    rw [e6, ← h, e5, Int.natCast_mul]
    generalize (V : Int) + q = A
    rw [show ((10 : Nat) : Int) = 10 from rfl, Int.mul_comm (P : Int) 10, ← Int.mul_assoc, Int.add_mul, Int.add_assoc]
theorem carry_end (L : List UInt8) (k : Nat) (hd : digs L = true) (c T : Int) (h : Carry L k c T) (hT : 0 < T) (hc : c = 0 ∨ k = 0) : 0 ≤ c ∧ Lib.trimLeftB (Lib.itoa c ++ L) 48 = Lib.decDigits T.toNat := by
  have key : 0 ≤ c ∧ c * (10 ^ L.length : Nat) + (val L : Int) = T := by
    unfold Carry at h
    rcases hc with rfl | rfl
    · refine ⟨Int.le_refl _, ?_⟩
      have := val_append (L.take k) (L.drop k)
      rw [List.take_append_drop, List.length_drop] at this
      rw [← h, this]
      simp
    · rw [List.take_zero, val_nil, List.drop_zero, Nat.sub_zero] at h
      have hv := val_lt hd
      refine ⟨?_, by simpa using h⟩
      generalize 10 ^ L.length = P at h hv
      by_cases hc0 : 0 ≤ c
      · exact hc0
      · exfalso
        have h1 : c ≤ -1 := by omega
        have h2 : ((0 : Nat) : Int) + c = c := by omega
        rw [h2] at h
        have h3 : c * (P : Int) ≤ -1 * (P : Int) := Int.mul_le_mul_of_nonneg_right h1 (by omega)
        omega
  refine ⟨key.1, ?_⟩
  obtain ⟨u, rfl⟩ : ∃ u : Nat, c = u := ⟨c.toNat, by omega⟩
  rw [Lib.itoa_nonneg]
  have hv : ((val (Lib.decDigits u ++ L) : Nat) : Int) = T := by
    rw [val_append, val_decDigits, ← key.2]
    simp
  rw [trim_val (by rw [digs_append, digs_decDigits, hd]; rfl) (by omega), ← hv]
  congr 1

theorem tdm (d : Int) : 10 * d.tdiv 10 + d.tmod 10 = d ∧ -10 < d.tmod 10 ∧ d.tmod 10 < 10 := by
  refine ⟨Int.mul_tdiv_add_tmod d 10, ?_, Int.tmod_lt_of_pos d (by decide)⟩
  have := Int.tmod_lt_of_pos (-d) (show (0 : Int) < 10 by decide)
  rw [Int.neg_tmod] at this
  omega

set_option maxHeartbeats 4000000 in
set_option maxRecDepth 100000 in
theorem plus_big_pos (s : ByteArray) (D : ByteArray) (hh : Head s false D) (hd : digs D.data.toList = true) (h18 : 18 < D.size) (hD : D.size ≤ 100000000) (n : Int) (hn0 : -4194304 ≤ n) (hn1 : n ≤ 4194304) (hT : 0 < (val D.data.toList : Int) + n) (w : World) (ht : Tab w) :
    Calls Tryd.prog 20 #[.string s, .int .i64 n] w fun e w' => e = .returned (.string ⟨(Lib.decDigits ((val D.data.toList : Int) + n).toNat).toArray⟩) ∧ Below w.heap.size w w' := by
  obtain ⟨s1, s2, c1, c2, c3⟩ := hh.calls
  obtain ⟨cap, w1, hcv, hrow, hb1, hsz1⟩ := conv_bytes w D
  have HROW : Hid _ := hrow
  have HB1 : Hid _ := hb1
  have HSZ : Hid _ := hsz1
  have HT : Hid _ := hT
  have HD : Hid _ := hd
  have HTB : Hid _ := ht
  clear hrow hb1 hsz1 hT hd ht
  go_enter Tryd.func20, Tryd.ntmps20
  go_wp2_with (first | (go_at_call 34; go_fit (c1 _); rintro e w' ⟨rfl, hw⟩; replace hw := hw.symm; subst hw) | (go_at_call 35; go_fit (c2 _); rintro e w' ⟨rfl, hw⟩; replace hw := hw.symm; subst hw) | (go_at_call 29; go_fit (c3 _); rintro e w' ⟨rfl, hw⟩; replace hw := hw.symm; subst hw) | fail)
  clear c1 c2 c3
  go_loopg [1, 10] D.size (fun g vn vi wr => ∃ (k : Nat) (c : Int) (L : List UInt8), vn = .int .i64 c ∧ vi = .int .i64 ((k : Int) - 1) ∧ k = g ∧ -4194304 ≤ c ∧ c ≤ 4194304 ∧ k ≤ L.length ∧ L.length = D.size ∧ digs L = true ∧ Carry L k c ((val D.data.toList : Int) + n) ∧ Row wr w.heap.size L ∧ Below w.heap.size w wr)
  case atStart =>
    have hl : D.data.toList.length = D.size := (Lib.size_eq D).symm
    refine ⟨D.size, n, D.data.toList, rfl, by first | rfl | go_num, rfl, by omega, by omega, by omega, hl, HD.out, ?_, HROW.out, HB1.out⟩
    unfold Carry
    rw [← hl, List.take_length, List.drop_length, Nat.sub_self, val_nil]
    simp
  case round =>
    obtain ⟨k, c, L, rfl, rfl, rfl, hc0, hc1, hkl, hL, hdL, hca, hrw, hbw⟩ := hrel
    clear HROW HB1 hcv HSZ
    by_cases hk : k = 0
    · subst hk
      · obtain ⟨hc, htr⟩ := carry_end L 0 hdL c _ hca HT.out (Or.inr rfl)
        have ht2 : Tab wr := tab_below HTB.out hbw
        obtain ⟨A, hA⟩ : ∃ A : ByteArray, ⟨(Lib.itoa c).toArray⟩ = A := ⟨_, rfl⟩
        obtain ⟨B, hB⟩ : ∃ B : ByteArray, ⟨L.toArray⟩ = B := ⟨_, rfl⟩
        have hAs : A.size ≤ 21 := by rw [← hA, Lib.size_mk]; exact Lib.itoa_length_le c (by omega) (by omega)
        have hBs : B.size ≤ 100000000 := by rw [← hB, Lib.size_mk]; omega
        have ci := fun w ht => itoa_any c (by omega) (by omega) w ht
        rw [hA] at ci
        have ct := fun w => Tryd.strings_TrimLeft_one (A ++ B) 48 (by decide) w
        have hAB : (A ++ B).data.toList = Lib.itoa c ++ L := by rw [← hA, ← hB]; simp
        rw [hAB, htr] at ct
        obtain ⟨S, hS⟩ : ∃ S : ByteArray, ⟨(Lib.decDigits (val D.data.toList + n : Int).toNat).toArray⟩ = S := ⟨_, rfl⟩
        have hSs : S.size ≤ 100000100 := by
          rw [← hS, Lib.size_mk, ← htr]
          refine Nat.le_trans (trim_length _) ?_
          rw [List.length_append]
          have := Lib.itoa_length_le c (by omega) (by omega)
          omega
        rw [hS] at ct
        have cvs : ∀ w' , Row w' w.heap.size L → (convert 46 9 (.slice (some ⟨w.heap.size, 0, none⟩) D.size cap)).run Tryd.prog w' = .ok (.string B) w' := fun w' h => by
          have := h.conv (cap := cap)
          rw [hL, hB] at this
          exact this
        have hcv1 := cvs wr.drew (by exact hrw)
        have HS : Hid _ := hS
        have HRW : Hid _ := hrw
        have HBW : Hid _ := hbw
        have HT2 : Hid _ := ht2
        have HCI : Hid _ := ci
        have HCT : Hid _ := ct
        have HCV : Hid _ := cvs
        clear htr hca hrw hbw hdL ht2 ci cvs hA hB hAB ct hS
        go_wp2_with fail
        go_region_with (first | (go_at_call 38; refine (HCI.out _ (by exact HT2.out)).mono ?_; rintro e w2 ⟨rfl, hb2⟩; have hcv2 := HCV.out _ (Row.below (by exact HRW.out) hb2)) | (go_at_call 29; refine (HCT.out _).mono ?_; rintro e w3 ⟨rfl, hw⟩; replace hw := hw.symm; subst hw))
        all_goals
          go_wp2_with fail
          go_ret
          refine ⟨?_, below_next (w1 := wr.drew) HBW.out.drew (by assumption)⟩
          rw [← HS.out]
          rfl

    · by_cases hcz : c = 0
      · subst hcz
        obtain ⟨hc, htr⟩ := carry_end L k hdL 0 _ hca HT.out (Or.inl rfl)
        have ht2 : Tab wr := tab_below HTB.out hbw
        obtain ⟨A, hA⟩ : ∃ A : ByteArray, ⟨(Lib.itoa 0).toArray⟩ = A := ⟨_, rfl⟩
        obtain ⟨B, hB⟩ : ∃ B : ByteArray, ⟨L.toArray⟩ = B := ⟨_, rfl⟩
        have hAs : A.size ≤ 21 := by rw [← hA, Lib.size_mk]; exact Lib.itoa_length_le 0 (by omega) (by omega)
        have hBs : B.size ≤ 100000000 := by rw [← hB, Lib.size_mk]; omega
        have ci := fun w ht => itoa_any 0 (by omega) (by omega) w ht
        rw [hA] at ci
        have ct := fun w => Tryd.strings_TrimLeft_one (A ++ B) 48 (by decide) w
        have hAB : (A ++ B).data.toList = Lib.itoa 0 ++ L := by rw [← hA, ← hB]; simp
        rw [hAB, htr] at ct
        obtain ⟨S, hS⟩ : ∃ S : ByteArray, ⟨(Lib.decDigits (val D.data.toList + n : Int).toNat).toArray⟩ = S := ⟨_, rfl⟩
        have hSs : S.size ≤ 100000100 := by
          rw [← hS, Lib.size_mk, ← htr]
          refine Nat.le_trans (trim_length _) ?_
          rw [List.length_append]
          have := Lib.itoa_length_le 0 (by omega) (by omega)
          omega
        rw [hS] at ct
        have cvs : ∀ w' , Row w' w.heap.size L → (convert 46 9 (.slice (some ⟨w.heap.size, 0, none⟩) D.size cap)).run Tryd.prog w' = .ok (.string B) w' := fun w' h => by
          have := h.conv (cap := cap)
          rw [hL, hB] at this
          exact this
        have hcv1 := cvs wr.drew (by exact hrw)
        have HS : Hid _ := hS
        have HRW : Hid _ := hrw
        have HBW : Hid _ := hbw
        have HT2 : Hid _ := ht2
        have HCI : Hid _ := ci
        have HCT : Hid _ := ct
        have HCV : Hid _ := cvs
        clear htr hca hrw hbw hdL ht2 ci cvs hA hB hAB ct hS
        go_wp2_with fail
        go_region_with (first | (go_at_call 38; refine (HCI.out _ (by exact HT2.out)).mono ?_; rintro e w2 ⟨rfl, hb2⟩; have hcv2 := HCV.out _ (Row.below (by exact HRW.out) hb2)) | (go_at_call 29; refine (HCT.out _).mono ?_; rintro e w3 ⟨rfl, hw⟩; replace hw := hw.symm; subst hw))
        all_goals
          go_wp2_with fail
          go_ret
          refine ⟨?_, below_next (w1 := wr.drew) HBW.out.drew (by assumption)⟩
          rw [← HS.out]
          rfl

      · have hcell := hrw.cell (k - 1) (by omega)
        have hfz := hrw.frozen (k - 1) (by omega)
        have hx := digs_mem hdL (List.getElem_mem (show k - 1 < L.length by omega))
        have hstep := fun y q r => carry_step L (k - 1) (by omega) hdL c _ (by rw [show k - 1 + 1 = k by omega]; exact hca) y q r
        obtain ⟨x, hxx⟩ : ∃ x, L[k - 1]'(by omega) = x := ⟨_, rfl⟩
        rw [hxx] at hcell hx
        have HSTEP : Hid _ := hstep
        have HXX : Hid _ := hxx
        have HRW : Hid _ := hrw
        have HBW : Hid _ := hbw
        clear hstep hxx hca hrw hbw hdL
        have x0 : 48 ≤ (x.toNat : Int) := by omega
        have x9 : (x.toNat : Int) ≤ 57 := by omega
        have hcb : (c == 0) = false := beq_eq_false_iff_ne.2 hcz
        go_wp2_with fail
        · rename_i hneg
          obtain ⟨d1, d2, d3⟩ := tdm ((x.toNat : Int) - 48 + c)
          generalize ((x.toNat : Int) - 48 + c).tdiv 10 = q0 at d1 ⊢
          generalize ((x.toNat : Int) - 48 + c).tmod 10 = r0 at d1 d2 d3 hneg ⊢
          obtain ⟨y, hy⟩ : ∃ y : UInt8, (y.toNat : Int) = 48 + (r0 + 10) := ⟨UInt8.ofNat (48 + (r0 + 10)).toNat, by rw [UInt8.toNat_ofNat']; omega⟩
          have e1 : wrap64 (q0 - 1) = q0 - 1 := by unfold wrap64; omega
          have e2 : wrap64 (r0 + 10) = r0 + 10 := by unfold wrap64; omega
          have e3 : wrap64 (48 + (r0 + 10)) % 256 = (y.toNat : Int) := by rw [hy]; unfold wrap64; omega
          rw [e1, e2, e3]
          obtain ⟨g1, g2⟩ := HSTEP.out y (q0 - 1) (r0 + 10) (by omega) (by omega) hy (by rw [HXX.out]; omega)
          go_roundg (k - 1)
          case measure => omega
          case rel => exact ⟨k - 1, q0 - 1, L.set (k - 1) y, rfl, by congr 1; omega, rfl, by omega, by omega, by rw [List.length_set]; omega, by rw [List.length_set]; exact hL, g1, g2, Row.set HRW.out (k - 1) y, HBW.out.setCell (Nat.le_refl _) _⟩
        · rename_i hneg
          obtain ⟨d1, d2, d3⟩ := tdm ((x.toNat : Int) - 48 + c)
          generalize ((x.toNat : Int) - 48 + c).tdiv 10 = q0 at d1 ⊢
          generalize ((x.toNat : Int) - 48 + c).tmod 10 = r0 at d1 d2 d3 hneg ⊢
          obtain ⟨y, hy⟩ : ∃ y : UInt8, (y.toNat : Int) = 48 + r0 := ⟨UInt8.ofNat (48 + r0).toNat, by rw [UInt8.toNat_ofNat']; omega⟩
          have e3 : wrap64 (48 + r0) % 256 = (y.toNat : Int) := by rw [hy]; unfold wrap64; omega
          rw [e3]
          obtain ⟨g1, g2⟩ := HSTEP.out y q0 r0 (by omega) (by omega) hy (by rw [HXX.out]; omega)
          go_roundg (k - 1)
          case measure => omega
          case rel => exact ⟨k - 1, q0, L.set (k - 1) y, rfl, by congr 1; omega, rfl, by omega, by omega, by rw [List.length_set]; omega, by rw [List.length_set]; exact hL, g1, g2, Row.set HRW.out (k - 1) y, HBW.out.setCell (Nat.le_refl _) _⟩

set_option maxHeartbeats 4000000 in
set_option maxRecDepth 100000 in
theorem plus_big_neg (s : ByteArray) (D : ByteArray) (hh : Head s true D) (hd : digs D.data.toList = true) (h18 : 18 < D.size) (hD : D.size ≤ 100000000) (n : Int) (hn0 : -4194304 ≤ n) (hn1 : n ≤ 4194304) (hT : 0 < (val D.data.toList : Int) - n) (w : World) (ht : Tab w) :
    Calls Tryd.prog 20 #[.string s, .int .i64 n] w fun e w' => e = .returned (.string ⟨(45 :: Lib.decDigits ((val D.data.toList : Int) - n).toNat).toArray⟩) ∧ Below w.heap.size w w' := by
  obtain ⟨s1, s2, c1, c2, c3⟩ := hh.calls
  obtain ⟨cap, w1, hcv, hrow, hb1, hsz1⟩ := conv_bytes w D
  have HROW : Hid _ := hrow
  have HB1 : Hid _ := hb1
  have HSZ : Hid _ := hsz1
  have HT : Hid _ := hT
  have HD : Hid _ := hd
  have HTB : Hid _ := ht
  clear hrow hb1 hsz1 hT hd ht
  go_enter Tryd.func20, Tryd.ntmps20
  go_wp2_with (first | (go_at_call 34; go_fit (c1 _); rintro e w' ⟨rfl, hw⟩; replace hw := hw.symm; subst hw) | (go_at_call 35; go_fit (c2 _); rintro e w' ⟨rfl, hw⟩; replace hw := hw.symm; subst hw) | (go_at_call 29; go_fit (c3 _); rintro e w' ⟨rfl, hw⟩; replace hw := hw.symm; subst hw) | fail)
  clear c1 c2 c3
  go_loopg [1, 10] D.size (fun g vn vi wr => ∃ (k : Nat) (c : Int) (L : List UInt8), vn = .int .i64 c ∧ vi = .int .i64 ((k : Int) - 1) ∧ k = g ∧ -4194304 ≤ c ∧ c ≤ 4194304 ∧ k ≤ L.length ∧ L.length = D.size ∧ digs L = true ∧ Carry L k c ((val D.data.toList : Int) - n) ∧ Row wr w.heap.size L ∧ Below w.heap.size w wr)
  case atStart =>
    have hl : D.data.toList.length = D.size := (Lib.size_eq D).symm
    refine ⟨D.size, -n, D.data.toList, rfl, by first | rfl | go_num, rfl, by omega, by omega, by omega, hl, HD.out, ?_, HROW.out, HB1.out⟩
    unfold Carry
    rw [← hl, List.take_length, List.drop_length, Nat.sub_self, val_nil]
    simp; omega
  case round =>
    obtain ⟨k, c, L, rfl, rfl, rfl, hc0, hc1, hkl, hL, hdL, hca, hrw, hbw⟩ := hrel
    clear HROW HB1 hcv HSZ
    by_cases hk : k = 0
    · subst hk
      · obtain ⟨hc, htr⟩ := carry_end L 0 hdL c _ hca HT.out (Or.inr rfl)
        have ht2 : Tab wr := tab_below HTB.out hbw
        obtain ⟨A, hA⟩ : ∃ A : ByteArray, ⟨(Lib.itoa c).toArray⟩ = A := ⟨_, rfl⟩
        obtain ⟨B, hB⟩ : ∃ B : ByteArray, ⟨L.toArray⟩ = B := ⟨_, rfl⟩
        have hAs : A.size ≤ 21 := by rw [← hA, Lib.size_mk]; exact Lib.itoa_length_le c (by omega) (by omega)
        have hBs : B.size ≤ 100000000 := by rw [← hB, Lib.size_mk]; omega
        have ci := fun w ht => itoa_any c (by omega) (by omega) w ht
        rw [hA] at ci
        have ct := fun w => Tryd.strings_TrimLeft_one (A ++ B) 48 (by decide) w
        have hAB : (A ++ B).data.toList = Lib.itoa c ++ L := by rw [← hA, ← hB]; simp
        rw [hAB, htr] at ct
        obtain ⟨S, hS⟩ : ∃ S : ByteArray, ⟨(Lib.decDigits (val D.data.toList - n : Int).toNat).toArray⟩ = S := ⟨_, rfl⟩
        have hSs : S.size ≤ 100000100 := by
          rw [← hS, Lib.size_mk, ← htr]
          refine Nat.le_trans (trim_length _) ?_
          rw [List.length_append]
          have := Lib.itoa_length_le c (by omega) (by omega)
          omega
        rw [hS] at ct
        have cvs : ∀ w' , Row w' w.heap.size L → (convert 46 9 (.slice (some ⟨w.heap.size, 0, none⟩) D.size cap)).run Tryd.prog w' = .ok (.string B) w' := fun w' h => by
          have := h.conv (cap := cap)
          rw [hL, hB] at this
          exact this
        have hcv1 := cvs wr.drew (by exact hrw)
        have HS : Hid _ := hS
        have HRW : Hid _ := hrw
        have HBW : Hid _ := hbw
        have HT2 : Hid _ := ht2
        have HCI : Hid _ := ci
        have HCT : Hid _ := ct
        have HCV : Hid _ := cvs
        clear htr hca hrw hbw hdL ht2 ci cvs hA hB hAB ct hS
        go_wp2_with fail
        go_region_with (first | (go_at_call 38; refine (HCI.out _ (by exact HT2.out)).mono ?_; rintro e w2 ⟨rfl, hb2⟩; have hcv2 := HCV.out _ (Row.below (by exact HRW.out) hb2)) | (go_at_call 29; refine (HCT.out _).mono ?_; rintro e w3 ⟨rfl, hw⟩; replace hw := hw.symm; subst hw))
        all_goals
          go_wp2_with fail
          go_ret
          refine ⟨?_, below_next (w1 := wr.drew) HBW.out.drew (by assumption)⟩
          rw [← HS.out]
          exact congrArg (fun x => Ending.returned (Value.string x)) (ba_append [45] _)

    · by_cases hcz : c = 0
      · subst hcz
        obtain ⟨hc, htr⟩ := carry_end L k hdL 0 _ hca HT.out (Or.inl rfl)
        have ht2 : Tab wr := tab_below HTB.out hbw
        obtain ⟨A, hA⟩ : ∃ A : ByteArray, ⟨(Lib.itoa 0).toArray⟩ = A := ⟨_, rfl⟩
        obtain ⟨B, hB⟩ : ∃ B : ByteArray, ⟨L.toArray⟩ = B := ⟨_, rfl⟩
        have hAs : A.size ≤ 21 := by rw [← hA, Lib.size_mk]; exact Lib.itoa_length_le 0 (by omega) (by omega)
        have hBs : B.size ≤ 100000000 := by rw [← hB, Lib.size_mk]; omega
        have ci := fun w ht => itoa_any 0 (by omega) (by omega) w ht
        rw [hA] at ci
        have ct := fun w => Tryd.strings_TrimLeft_one (A ++ B) 48 (by decide) w
        have hAB : (A ++ B).data.toList = Lib.itoa 0 ++ L := by rw [← hA, ← hB]; simp
        rw [hAB, htr] at ct
        obtain ⟨S, hS⟩ : ∃ S : ByteArray, ⟨(Lib.decDigits (val D.data.toList - n : Int).toNat).toArray⟩ = S := ⟨_, rfl⟩
        have hSs : S.size ≤ 100000100 := by
          rw [← hS, Lib.size_mk, ← htr]
          refine Nat.le_trans (trim_length _) ?_
          rw [List.length_append]
          have := Lib.itoa_length_le 0 (by omega) (by omega)
          omega
        rw [hS] at ct
        have cvs : ∀ w' , Row w' w.heap.size L → (convert 46 9 (.slice (some ⟨w.heap.size, 0, none⟩) D.size cap)).run Tryd.prog w' = .ok (.string B) w' := fun w' h => by
          have := h.conv (cap := cap)
          rw [hL, hB] at this
          exact this
        have hcv1 := cvs wr.drew (by exact hrw)
        have HS : Hid _ := hS
        have HRW : Hid _ := hrw
        have HBW : Hid _ := hbw
        have HT2 : Hid _ := ht2
        have HCI : Hid _ := ci
        have HCT : Hid _ := ct
        have HCV : Hid _ := cvs
        clear htr hca hrw hbw hdL ht2 ci cvs hA hB hAB ct hS
        go_wp2_with fail
        go_region_with (first | (go_at_call 38; refine (HCI.out _ (by exact HT2.out)).mono ?_; rintro e w2 ⟨rfl, hb2⟩; have hcv2 := HCV.out _ (Row.below (by exact HRW.out) hb2)) | (go_at_call 29; refine (HCT.out _).mono ?_; rintro e w3 ⟨rfl, hw⟩; replace hw := hw.symm; subst hw))
        all_goals
          go_wp2_with fail
          go_ret
          refine ⟨?_, below_next (w1 := wr.drew) HBW.out.drew (by assumption)⟩
          rw [← HS.out]
          exact congrArg (fun x => Ending.returned (Value.string x)) (ba_append [45] _)

      · have hcell := hrw.cell (k - 1) (by omega)
        have hfz := hrw.frozen (k - 1) (by omega)
        have hx := digs_mem hdL (List.getElem_mem (show k - 1 < L.length by omega))
        have hstep := fun y q r => carry_step L (k - 1) (by omega) hdL c _ (by rw [show k - 1 + 1 = k by omega]; exact hca) y q r
        obtain ⟨x, hxx⟩ : ∃ x, L[k - 1]'(by omega) = x := ⟨_, rfl⟩
        rw [hxx] at hcell hx
        have HSTEP : Hid _ := hstep
        have HXX : Hid _ := hxx
        have HRW : Hid _ := hrw
        have HBW : Hid _ := hbw
        clear hstep hxx hca hrw hbw hdL
        have x0 : 48 ≤ (x.toNat : Int) := by omega
        have x9 : (x.toNat : Int) ≤ 57 := by omega
        have hcb : (c == 0) = false := beq_eq_false_iff_ne.2 hcz
        go_wp2_with fail
        · rename_i hneg
          obtain ⟨d1, d2, d3⟩ := tdm ((x.toNat : Int) - 48 + c)
          generalize ((x.toNat : Int) - 48 + c).tdiv 10 = q0 at d1 ⊢
          generalize ((x.toNat : Int) - 48 + c).tmod 10 = r0 at d1 d2 d3 hneg ⊢
          obtain ⟨y, hy⟩ : ∃ y : UInt8, (y.toNat : Int) = 48 + (r0 + 10) := ⟨UInt8.ofNat (48 + (r0 + 10)).toNat, by rw [UInt8.toNat_ofNat']; omega⟩
          have e1 : wrap64 (q0 - 1) = q0 - 1 := by unfold wrap64; omega
          have e2 : wrap64 (r0 + 10) = r0 + 10 := by unfold wrap64; omega
          have e3 : wrap64 (48 + (r0 + 10)) % 256 = (y.toNat : Int) := by rw [hy]; unfold wrap64; omega
          rw [e1, e2, e3]
          obtain ⟨g1, g2⟩ := HSTEP.out y (q0 - 1) (r0 + 10) (by omega) (by omega) hy (by rw [HXX.out]; omega)
          go_roundg (k - 1)
          case measure => omega
          case rel => exact ⟨k - 1, q0 - 1, L.set (k - 1) y, rfl, by congr 1; omega, rfl, by omega, by omega, by rw [List.length_set]; omega, by rw [List.length_set]; exact hL, g1, g2, Row.set HRW.out (k - 1) y, HBW.out.setCell (Nat.le_refl _) _⟩
        · rename_i hneg
          obtain ⟨d1, d2, d3⟩ := tdm ((x.toNat : Int) - 48 + c)
          generalize ((x.toNat : Int) - 48 + c).tdiv 10 = q0 at d1 ⊢
          generalize ((x.toNat : Int) - 48 + c).tmod 10 = r0 at d1 d2 d3 hneg ⊢
          obtain ⟨y, hy⟩ : ∃ y : UInt8, (y.toNat : Int) = 48 + r0 := ⟨UInt8.ofNat (48 + r0).toNat, by rw [UInt8.toNat_ofNat']; omega⟩
          have e3 : wrap64 (48 + r0) % 256 = (y.toNat : Int) := by rw [hy]; unfold wrap64; omega
          rw [e3]
          obtain ⟨g1, g2⟩ := HSTEP.out y q0 r0 (by omega) (by omega) hy (by rw [HXX.out]; omega)
          go_roundg (k - 1)
          case measure => omega
          case rel => exact ⟨k - 1, q0, L.set (k - 1) y, rfl, by congr 1; omega, rfl, by omega, by omega, by rw [List.length_set]; omega, by rw [List.length_set]; exact hL, g1, g2, Row.set HRW.out (k - 1) y, HBW.out.setCell (Nat.le_refl _) _⟩

end Go.Proofs.Qxb6606029aDoor
