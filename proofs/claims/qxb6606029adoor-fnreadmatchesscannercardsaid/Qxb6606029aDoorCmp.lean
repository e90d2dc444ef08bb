/-
  cmpMag and splitSigned, by their contracts.
-/
import Derived.Test.Qxb6606029aDoorMags
import Derived.Test.Qxb6606029aDoorSum
namespace Go.Proofs.Qxb6606029aDoor
open Go.RowKit Go.Joins

theorem lex_lt {P ra rb : List UInt8} {x y : UInt8} (hxy : x.toNat < y.toNat) (hx : 48 ≤ x.toNat) (hra : digs ra = true) (hl : ra.length = rb.length) : val (P ++ x :: ra) < val (P ++ y :: rb) := by
  have h1 := val_lt hra
  rw [val_append, val_append, val_cons, val_cons, List.length_cons, List.length_cons, hl]
  rw [hl] at h1
  have h2 : (x.toNat - 48 + 1) * 10 ^ rb.length ≤ (y.toNat - 48) * 10 ^ rb.length := Nat.mul_le_mul_right _ (by omega)
  rw [Nat.add_mul] at h2
  omega
theorem dig_in {a : ByteArray} (h : digs a.data.toList = true) (i : Nat) (hi : i < a.size) : 48 ≤ a[i].toNat ∧ a[i].toNat ≤ 57 := by
  have hd := drop_at a i hi
  exact digs_mem h (List.mem_of_mem_drop (i := i) (by rw [hd]; exact List.mem_cons_self))
theorem bel_drew {B : Nat} {r w : World} (h : Below B r w) : ∀ n, Below B r (w.drewN n)
  | 0 => h
  | n + 1 => (bel_drew h n).drew
def cmpI (a b : Nat) : Int := if a < b then -1 else if a = b then 0 else 1

set_option maxHeartbeats 4000000 in
set_option maxRecDepth 100000 in
theorem cmp_any (a b : ByteArray) (w : World) (hsa : a.size ≤ 10000000) (ha : Mag a.data.toList) (hb : Mag b.data.toList) :
    Calls Tryd.prog 24 #[.string a, .string b] w fun e w' => e = .returned (.int .i64 (cmpI (val a.data.toList) (val b.data.toList))) ∧ Below w.heap.size w w' := by
  have hal : a.data.toList.length = a.size := (Lib.size_eq a).symm
  have hbl : b.data.toList.length = b.size := (Lib.size_eq b).symm
  by_cases h1 : a.size < b.size
  · have hr : cmpI (val a.data.toList) (val b.data.toList) = -1 := by
      unfold cmpI
      rw [if_pos (ha.lt_of_length hb (by omega))]
    rw [hr]
    clear ha hb hal hbl hr
    go_enter Tryd.func24, Tryd.ntmps24
    go_wp2_with fail
    go_ret
    exact ⟨rfl, Below.refl _ _⟩
  · by_cases h2 : b.size < a.size
    · have hr : cmpI (val a.data.toList) (val b.data.toList) = 1 := by
        have := hb.lt_of_length ha (by omega)
        unfold cmpI
        rw [if_neg (by omega), if_neg (by omega)]
      rw [hr]
      clear ha hb hal hbl hr
      have hne : ((a.size : Int) != (b.size : Int)) = true := by
        rw [bne_iff_ne]
        omega
      go_enter Tryd.func24, Tryd.ntmps24
      go_wp2_with fail
      go_ret
      exact ⟨rfl, Below.refl _ _⟩
    · have hs : b.size = a.size := by omega
      have hda := ha.1
      have hdb := hb.1
      have HAL : Hid _ := hal
      have HBL : Hid _ := hbl
      have HDA : Hid _ := hda
      have HDB : Hid _ := hdb
      have HS : Hid _ := hs
      have hne : ((a.size : Int) != (b.size : Int)) = false := by
        rw [hs]
        simp
      clear ha hb hal hbl hda hdb h1 h2
      go_enter Tryd.func24, Tryd.ntmps24
      go_wp2_with fail
      go_loopg [5] a.size (fun gg vi wr => ∃ i : Nat, vi = .int .i64 i ∧ i + gg = a.size ∧ Below w.heap.size w wr ∧ a.data.toList.take i = b.data.toList.take i)
      case atStart => exact ⟨0, rfl, by omega, Below.refl _ _, rfl⟩
      case round =>
        obtain ⟨i, rfl, hig, hbel, htk⟩ := hrel
        have HBEL : Hid _ := hbel
        have HTK : Hid _ := htk
        have HIG : Hid _ := hig
        clear hbel htk
        by_cases hi : i < a.size
        · have hib : i < b.size := by omega
          have hxa := drop_at a i hi
          have hyb := drop_at b i hib
          have hdx := dig_in HDA.out i hi
          have hdy := dig_in HDB.out i hib
          obtain ⟨x, hx⟩ : ∃ x, a[i] = x := ⟨_, rfl⟩
          obtain ⟨y, hy⟩ : ∃ y, b[i] = y := ⟨_, rfl⟩
          rw [hx] at hxa hdx
          rw [hy] at hyb hdy
          have ea : a.data.toList = a.data.toList.take i ++ x :: a.data.toList.drop (i + 1) := by rw [← hxa, List.take_append_drop]
          have eb : b.data.toList = a.data.toList.take i ++ y :: b.data.toList.drop (i + 1) := by rw [HTK.out, ← hyb, List.take_append_drop]
          have hll : (a.data.toList.drop (i + 1)).length = (b.data.toList.drop (i + 1)).length := by rw [List.length_drop, List.length_drop, HAL.out, HBL.out, HS.out]
          have hlt : x.toNat < y.toNat → val a.data.toList < val b.data.toList := fun h => by
            rw [ea, eb]
            exact lex_lt h hdx.1 (digs_drop HDA.out _) hll
          have hgt : y.toNat < x.toNat → val b.data.toList < val a.data.toList := fun h => by
            rw [ea, eb]
            exact lex_lt h hdy.1 (digs_drop HDB.out _) hll.symm
          have HLT : Hid _ := hlt
          have HGT : Hid _ := hgt
          have HXA : Hid _ := hxa
          have HYB : Hid _ := hyb
          clear hxa hyb ea eb hll hlt hgt hig
          have hi1 : (i : Int) < (a.size : Int) := by omega
          have hi2 : (i : Int) < (b.size : Int) := by omega
          by_cases hxy : x = y
          · subst hxy
            go_wp2_with fail
            go_quiet (fail)
            go_wp2_with fail
            have hig := HIG.out
            go_roundg (gk - 1)
            case measure => omega
            case rel =>
              refine ⟨i + 1, by go_num, by omega, bel_drew HBEL.out nq, ?_⟩
              have h1 : a.data.toList[i]? = some x := by
                rw [← List.head?_drop, HXA.out]
                rfl
              have h2 : b.data.toList[i]? = some x := by
                rw [← List.head?_drop, HYB.out]
                rfl
              rw [List.take_add_one, List.take_add_one, h1, h2, HTK.out]
          · have hnn : x.toNat ≠ y.toNat := fun e => hxy (UInt8.toNat_inj.1 e)
            have hbn : ((x.toNat : Int) != (y.toNat : Int)) = true := by
              rw [bne_iff_ne]
              omega
            by_cases hlt : x.toNat < y.toNat
            · have hdl : decide ((x.toNat : Int) < (y.toNat : Int)) = true := decide_eq_true (by omega)
              have hr : cmpI (val a.data.toList) (val b.data.toList) = -1 := by
                unfold cmpI
                rw [if_pos (HLT.out hlt)]
              have HR : Hid _ := hr
              clear hr
              go_wp2_with fail
              go_quiet (fail)
              have hb2 := bel_drew HBEL.out nq
              generalize wr.drewN nq = wq at hb2 ⊢
              have HB2 : Hid _ := hb2
              clear hb2
              go_wp2_with fail
              go_quiet (fail)
              go_wp2_with fail
              go_ret
              exact ⟨by rw [HR.out]; rfl, bel_drew HB2.out nq⟩
            · have hdl : decide ((x.toNat : Int) < (y.toNat : Int)) = false := decide_eq_false (by omega)
              have hr : cmpI (val a.data.toList) (val b.data.toList) = 1 := by
                have := HGT.out (by omega)
                unfold cmpI
                rw [if_neg (by omega), if_neg (by omega)]
              have HR : Hid _ := hr
              clear hr
              go_wp2_with fail
              go_quiet (fail)
              have hb2 := bel_drew HBEL.out nq
              generalize wr.drewN nq = wq at hb2 ⊢
              have HB2 : Hid _ := hb2
              clear hb2
              go_wp2_with fail
              go_quiet (fail)
              go_wp2_with fail
              go_ret
              exact ⟨by rw [HR.out]; rfl, bel_drew HB2.out nq⟩
        · have hr : cmpI (val a.data.toList) (val b.data.toList) = 0 := by
            have htk := HTK.out
            rw [List.take_of_length_le (by rw [HAL.out]; omega), List.take_of_length_le (by rw [HBL.out, HS.out]; omega)] at htk
            unfold cmpI
            rw [htk, if_neg (by omega), if_pos rfl]
          have HR : Hid _ := hr
          clear hr
          go_wp2_with fail
          go_ret
          exact ⟨by rw [HR.out]; rfl, HBEL.out⟩

set_option maxHeartbeats 4000000 in
set_option maxRecDepth 100000 in
theorem split_core (s t : ByteArray) (neg : Bool) (w : World) (hs : s.size ≤ 100000000) (hts : t.size ≤ 100000000)
    (hc : (∃ h : 0 < s.size, s[0] = 43 ∧ neg = false ∧ s.extract 1 s.size = t) ∨ (∃ h : 0 < s.size, s[0] = 45 ∧ neg = true ∧ s.extract 1 s.size = t) ∨ (¬ 0 < s.size ∧ neg = false ∧ s = t) ∨ (∃ h : 0 < s.size, s[0] ≠ 43 ∧ s[0] ≠ 45 ∧ neg = false ∧ s = t)) :
    Calls Tryd.prog 10 #[.string s] w fun e w' => e = .returned (.tuple #[.bool neg, .string ⟨(Lib.trimLeftB t.data.toList 48).toArray⟩]) ∧ Below w.heap.size w w' := by
  rcases hc with ⟨h0, h1, rfl, hT⟩ | ⟨h0, h1, rfl, hT⟩ | ⟨h0, rfl, rfl⟩ | ⟨h0, h1, h2, rfl, rfl⟩
  · go_enter Tryd.func10, Tryd.ntmps10
    go_wp2_with fail
    go_loopg [5] t.size (fun gg vi wr => ∃ i : Nat, vi = .int .i64 i ∧ i + gg = t.size ∧ wr = w ∧ Lib.trimLeftB (t.data.toList.drop i) 48 = Lib.trimLeftB t.data.toList 48)
    case atStart => exact ⟨0, rfl, by omega, rfl, rfl⟩
    case round =>
      obtain ⟨i, rfl, hig, hw, ht⟩ := hrel
      subst hw
      have HT : Hid _ := ht
      have HIG : Hid _ := hig
      clear ht
      by_cases hi : i < t.size
      · have hdr := drop_at t i hi
        obtain ⟨x, hx⟩ : ∃ x, t[i] = x := ⟨_, rfl⟩
        rw [hx] at hdr
        have HDR : Hid _ := hdr
        clear hdr hig
        by_cases h48 : x = 48
        · subst h48
          go_wp2_with fail
          have hig := HIG.out
          go_roundg (gk - 1)
          case measure => omega
          case rel =>
            refine ⟨i + 1, by go_num, by omega, rfl, ?_⟩
            rw [← HT.out, HDR.out, trim_cons, if_pos rfl]
        · have n48 : ((x.toNat : Int) == 48) = false := byte_ne x 48 h48
          have hr : Lib.trimLeftB t.data.toList 48 = t.data.toList.drop i := by rw [← HT.out, HDR.out, trim_cons, if_neg h48]
          have HR : Hid _ := hr
          clear hr
          have hi1 : (i : Int) ≤ (t.size : Int) := by omega
          go_wp2_with fail
          go_quiet (fail)
          go_wp2_with fail
          go_ret2
          exact ⟨by rw [HR.out, ← Lib.extract_from]; rfl, bel_drew (Below.refl _ _) nq⟩
      · obtain rfl : i = t.size := by omega
        have hr : Lib.trimLeftB t.data.toList 48 = t.data.toList.drop t.size := by
          rw [← HT.out, drop_end t t.size (by omega)]
          rfl
        have HR : Hid _ := hr
        clear hr hig HIG HT hi
        go_wp2_with fail
        go_quiet (fail)
        go_wp2_with fail
        go_ret2
        exact ⟨by rw [HR.out, ← Lib.extract_from]; simp, bel_drew (Below.refl _ _) nq⟩
  · go_enter Tryd.func10, Tryd.ntmps10
    go_wp2_with fail
    go_loopg [5] t.size (fun gg vi wr => ∃ i : Nat, vi = .int .i64 i ∧ i + gg = t.size ∧ wr = w ∧ Lib.trimLeftB (t.data.toList.drop i) 48 = Lib.trimLeftB t.data.toList 48)
    case atStart => exact ⟨0, rfl, by omega, rfl, rfl⟩
    case round =>
      obtain ⟨i, rfl, hig, hw, ht⟩ := hrel
      subst hw
      have HT : Hid _ := ht
      have HIG : Hid _ := hig
      clear ht
      by_cases hi : i < t.size
      · have hdr := drop_at t i hi
        obtain ⟨x, hx⟩ : ∃ x, t[i] = x := ⟨_, rfl⟩
        rw [hx] at hdr
        have HDR : Hid _ := hdr
        clear hdr hig
        by_cases h48 : x = 48
        · subst h48
          go_wp2_with fail
          have hig := HIG.out
          go_roundg (gk - 1)
          case measure => omega
          case rel =>
            refine ⟨i + 1, by go_num, by omega, rfl, ?_⟩
            rw [← HT.out, HDR.out, trim_cons, if_pos rfl]
        · have n48 : ((x.toNat : Int) == 48) = false := byte_ne x 48 h48
          have hr : Lib.trimLeftB t.data.toList 48 = t.data.toList.drop i := by rw [← HT.out, HDR.out, trim_cons, if_neg h48]
          have HR : Hid _ := hr
          clear hr
          have hi1 : (i : Int) ≤ (t.size : Int) := by omega
          go_wp2_with fail
          go_quiet (fail)
          go_wp2_with fail
          go_ret2
          exact ⟨by rw [HR.out, ← Lib.extract_from]; rfl, bel_drew (Below.refl _ _) nq⟩
      · obtain rfl : i = t.size := by omega
        have hr : Lib.trimLeftB t.data.toList 48 = t.data.toList.drop t.size := by
          rw [← HT.out, drop_end t t.size (by omega)]
          rfl
        have HR : Hid _ := hr
        clear hr hig HIG HT hi
        go_wp2_with fail
        go_quiet (fail)
        go_wp2_with fail
        go_ret2
        exact ⟨by rw [HR.out, ← Lib.extract_from]; simp, bel_drew (Below.refl _ _) nq⟩
  · generalize hst : s = t at *
    go_enter Tryd.func10, Tryd.ntmps10
    go_wp2_with fail
    go_loopg [5] t.size (fun gg vi wr => ∃ i : Nat, vi = .int .i64 i ∧ i + gg = t.size ∧ wr = w ∧ Lib.trimLeftB (t.data.toList.drop i) 48 = Lib.trimLeftB t.data.toList 48)
    case atStart => exact ⟨0, rfl, by omega, rfl, rfl⟩
    case round =>
      obtain ⟨i, rfl, hig, hw, ht⟩ := hrel
      subst hw
      have HT : Hid _ := ht
      have HIG : Hid _ := hig
      clear ht
      by_cases hi : i < t.size
      · have hdr := drop_at t i hi
        obtain ⟨x, hx⟩ : ∃ x, t[i] = x := ⟨_, rfl⟩
        rw [hx] at hdr
        have HDR : Hid _ := hdr
        clear hdr hig
        by_cases h48 : x = 48
        · subst h48
          go_wp2_with fail
          have hig := HIG.out
          go_roundg (gk - 1)
          case measure => omega
          case rel =>
            refine ⟨i + 1, by go_num, by omega, rfl, ?_⟩
            rw [← HT.out, HDR.out, trim_cons, if_pos rfl]
        · have n48 : ((x.toNat : Int) == 48) = false := byte_ne x 48 h48
          have hr : Lib.trimLeftB t.data.toList 48 = t.data.toList.drop i := by rw [← HT.out, HDR.out, trim_cons, if_neg h48]
          have HR : Hid _ := hr
          clear hr
          have hi1 : (i : Int) ≤ (t.size : Int) := by omega
          go_wp2_with fail
          go_quiet (fail)
          go_wp2_with fail
          go_ret2
          exact ⟨by rw [HR.out, ← Lib.extract_from]; rfl, bel_drew (Below.refl _ _) nq⟩
      · obtain rfl : i = t.size := by omega
        have hr : Lib.trimLeftB t.data.toList 48 = t.data.toList.drop t.size := by
          rw [← HT.out, drop_end t t.size (by omega)]
          rfl
        have HR : Hid _ := hr
        clear hr hig HIG HT hi
        go_wp2_with fail
        go_quiet (fail)
        go_wp2_with fail
        go_ret2
        exact ⟨by rw [HR.out, ← Lib.extract_from]; simp, bel_drew (Below.refl _ _) nq⟩
  · generalize hst : s = t at *
    obtain ⟨c, hcc⟩ : ∃ c, t[0] = c := ⟨_, rfl⟩
    rw [hcc] at h1 h2
    have g1 : ((c.toNat : Int) == 43) = false := byte_ne c 43 h1
    have g2 : ((c.toNat : Int) == 45) = false := byte_ne c 45 h2
    clear h1 h2
    go_enter Tryd.func10, Tryd.ntmps10
    go_wp2_with fail
    go_loopg [5] t.size (fun gg vi wr => ∃ i : Nat, vi = .int .i64 i ∧ i + gg = t.size ∧ wr = w ∧ Lib.trimLeftB (t.data.toList.drop i) 48 = Lib.trimLeftB t.data.toList 48)
    case atStart => exact ⟨0, rfl, by omega, rfl, rfl⟩
    case round =>
      obtain ⟨i, rfl, hig, hw, ht⟩ := hrel
      subst hw
      have HT : Hid _ := ht
      have HIG : Hid _ := hig
      clear ht
      by_cases hi : i < t.size
      · have hdr := drop_at t i hi
        obtain ⟨x, hx⟩ : ∃ x, t[i] = x := ⟨_, rfl⟩
        rw [hx] at hdr
        have HDR : Hid _ := hdr
        clear hdr hig
        by_cases h48 : x = 48
        · subst h48
          go_wp2_with fail
          have hig := HIG.out
          go_roundg (gk - 1)
          case measure => omega
          case rel =>
            refine ⟨i + 1, by go_num, by omega, rfl, ?_⟩
            rw [← HT.out, HDR.out, trim_cons, if_pos rfl]
        · have n48 : ((x.toNat : Int) == 48) = false := byte_ne x 48 h48
          have hr : Lib.trimLeftB t.data.toList 48 = t.data.toList.drop i := by rw [← HT.out, HDR.out, trim_cons, if_neg h48]
          have HR : Hid _ := hr
          clear hr
          have hi1 : (i : Int) ≤ (t.size : Int) := by omega
          go_wp2_with fail
          go_quiet (fail)
          go_wp2_with fail
          go_ret2
          exact ⟨by rw [HR.out, ← Lib.extract_from]; rfl, bel_drew (Below.refl _ _) nq⟩
      · obtain rfl : i = t.size := by omega
        have hr : Lib.trimLeftB t.data.toList 48 = t.data.toList.drop t.size := by
          rw [← HT.out, drop_end t t.size (by omega)]
          rfl
        have HR : Hid _ := hr
        clear hr hig HIG HT hi
        go_wp2_with fail
        go_quiet (fail)
        go_wp2_with fail
        go_ret2
        exact ⟨by rw [HR.out, ← Lib.extract_from]; simp, bel_drew (Below.refl _ _) nq⟩
end Go.Proofs.Qxb6606029aDoor
