/-
  modelRead, by its contract.
-/
import Derived.Test.Qxb6606029aDoorScan
import Derived.Test.Qxb6606029aDoorReadK
import Derived.Test.Qxb6606029aDoorMsum
import Derived.Test.Qxb6606029aDoorTail
import Derived.Test.Qxb6606029aDoorBod
import Derived.Test.Qxb6606029aDoorApp
import Derived.Deep.CutBlock
namespace Go.Proofs.Qxb6606029aDoor
open Go.RowKit Go.Joins

/-- What the sign says: (is there one, is it a minus). -/
structure Sgn (s : ByteArray) (sd neg : Bool) : Prop where
  cases : (¬ 0 < s.size ∧ sd = false ∧ neg = false) ∨ (∃ h : 0 < s.size, s[0] = 43 ∧ sd = true ∧ neg = false) ∨ (∃ h : 0 < s.size, s[0] = 45 ∧ sd = true ∧ neg = true) ∨ (∃ h : 0 < s.size, s[0] ≠ 43 ∧ s[0] ≠ 45 ∧ sd = false ∧ neg = false)

theorem scan_le : ∀ (l : List UInt8) (pt : Bool), (scan pt l).1 ≤ l.length
  | [], _ => Nat.le_refl _
  | c :: r, pt => by
    have h1 := scan_le r pt
    have h2 := scan_le r true
    rw [scan, List.length_cons]
    split
    · simp only
      omega
    · split
      · simp only
        omega
      · exact Nat.zero_le _
theorem endOf_le (l : List UInt8) (i : Nat) (h : i ≤ l.length) : endOf l i ≤ l.length := by
  have := scan_le (l.drop i) false
  rw [List.length_drop] at this
  unfold endOf
  omega
theorem sign_at (s : ByteArray) (a : Nat) : ∃ (sd : Bool) (ds : Nat), unsign (s.data.toList.drop a) = s.data.toList.drop ds ∧ a ≤ ds ∧ ds ≤ a + 1 ∧ (a ≤ s.size → ds ≤ s.size) ∧
    ((¬ a < s.size ∧ sd = false ∧ ds = a) ∨ (∃ h : a < s.size, s[a] = 43 ∧ sd = true ∧ ds = a + 1) ∨ (∃ h : a < s.size, s[a] = 45 ∧ sd = true ∧ ds = a + 1) ∨ (∃ h : a < s.size, s[a] ≠ 43 ∧ s[a] ≠ 45 ∧ sd = false ∧ ds = a)) := by
  by_cases h : a < s.size
  · have hd := drop_at s a h
    obtain ⟨c, hc⟩ : ∃ c, s[a] = c := ⟨_, rfl⟩
    rw [hc] at hd
    by_cases h1 : c = 43
    · refine ⟨true, a + 1, ?_, by omega, by omega, fun _ => h, Or.inr (Or.inl ⟨h, by rw [hc, h1], rfl, rfl⟩)⟩
      rw [hd]
      show (if _ then _ else _) = _
      rw [if_pos (Or.inl h1)]
    · by_cases h2 : c = 45
      · refine ⟨true, a + 1, ?_, by omega, by omega, fun _ => h, Or.inr (Or.inr (Or.inl ⟨h, by rw [hc, h2], rfl, rfl⟩))⟩
        rw [hd]
        show (if _ then _ else _) = _
        rw [if_pos (Or.inr h2)]
      · refine ⟨false, a, ?_, by omega, by omega, fun h => h, Or.inr (Or.inr (Or.inr ⟨h, by rw [hc]; exact h1, by rw [hc]; exact h2, rfl, rfl⟩))⟩
        rw [hd]
        show (if _ then _ else _) = _
        rw [if_neg (fun e => e.elim h1 h2)]
  · refine ⟨false, a, ?_, by omega, by omega, fun h => h, Or.inl ⟨h, rfl, rfl⟩⟩
    rw [drop_end s a h]
    rfl
theorem tw_step {l : List UInt8} {i : Nat} {x : UInt8} (hx : dig x = true) (hd : l.drop i = x :: l.drop (i + 1)) : i + 1 + ((l.drop (i + 1)).takeWhile dig).length = i + ((l.drop i).takeWhile dig).length := by
  rw [hd, List.takeWhile_cons, if_pos hx, List.length_cons]
  omega
theorem tw_digs : ∀ {y : List UInt8}, digs y = true → (y.takeWhile dig).length = y.length
  | [], _ => rfl
  | c :: r, h => by
    rw [digs_cons, Bool.and_eq_true] at h
    rw [List.takeWhile_cons, if_pos h.1, List.length_cons, List.length_cons, tw_digs h.2]
theorem digs_tw : ∀ {y : List UInt8}, (y.takeWhile dig).length = y.length → digs y = true
  | [], _ => rfl
  | c :: r, h => by
    rw [List.takeWhile_cons] at h
    by_cases hc : dig c = true
    · rw [if_pos hc, List.length_cons, List.length_cons] at h
      rw [digs_cons, hc, digs_tw (by omega)]
      rfl
    · rw [if_neg hc, List.length_cons] at h
      simp at h
theorem split_any (T : ByteArray) (w : World) (hT : T.size ≤ 100000000) :
    Calls Tryd.prog 10 #[.string T] w fun e w' => e = .returned (.tuple #[.bool (decide (T.data.toList.head? = some 45)), .string ⟨(Lib.trimLeftB (unsign T.data.toList) 48).toArray⟩]) ∧ Below w.heap.size w w' := by
  by_cases h : 0 < T.size
  · have hd := data_cons T h
    have hex : (T.extract 1 T.size).data.toList = T.data.toList.drop 1 := by rw [Lib.extract_from]
    have hes : (T.extract 1 T.size).size ≤ 100000000 := by rw [Lib.size_eq, hex, List.length_drop, ← Lib.size_eq]; omega
    obtain ⟨c, hc⟩ : ∃ c, T[0] = c := ⟨_, rfl⟩
    rw [hc] at hd
    by_cases h1 : c = 43
    · have := split_core T (T.extract 1 T.size) false w hT hes (Or.inl ⟨h, by rw [hc, h1], rfl, rfl⟩)
      rw [hex] at this
      have e1 : unsign T.data.toList = T.data.toList.drop 1 := by
        rw [hd]
        show (if _ then _ else _) = _
        rw [if_pos (Or.inl h1)]
        rfl
      have e2 : decide (T.data.toList.head? = some 45) = false := by
        rw [hd, h1]
        rfl
      rw [e1, e2]
      exact this
    · by_cases h2 : c = 45
      · have := split_core T (T.extract 1 T.size) true w hT hes (Or.inr (Or.inl ⟨h, by rw [hc, h2], rfl, rfl⟩))
        rw [hex] at this
        have e1 : unsign T.data.toList = T.data.toList.drop 1 := by
          rw [hd]
          show (if _ then _ else _) = _
          rw [if_pos (Or.inr h2)]
          rfl
        have e2 : decide (T.data.toList.head? = some 45) = true := by
          rw [hd, h2]
          rfl
        rw [e1, e2]
        exact this
      · have := split_core T T false w hT hT (Or.inr (Or.inr (Or.inr ⟨h, by rw [hc]; exact h1, by rw [hc]; exact h2, rfl, rfl⟩)))
        have e1 : unsign T.data.toList = T.data.toList := by
          rw [hd]
          show (if _ then _ else _) = _
          rw [if_neg (fun e => e.elim h1 h2)]
        have e2 : decide (T.data.toList.head? = some 45) = false := by
          rw [hd]
          exact decide_eq_false (fun e => h2 (Option.some.inj e))
        rw [e1, e2]
        exact this
  · have := split_core T T false w hT hT (Or.inr (Or.inr (Or.inl ⟨h, rfl, rfl⟩)))
    have he : T.data.toList = [] := List.length_eq_zero_iff.1 (by rw [← Lib.size_eq]; omega)
    rw [he] at this ⊢
    exact this
theorem ownsRow_below {w w' : World} {B : Nat} {e : TypeId} {sz : Nat} {v : Value} {n : Nat} {xs : List Value} (h : w.ownsRow B e sz v n xs) (hb : Below w.heap.size w w') : w'.ownsRow B e sz v n xs :=
  h.kept (row := none) ⟨hb.os, hb.tape, hb.output, hb.size, fun k hk _ => hb.block k hk⟩ (by
    cases hv : v.ownBlock with
    | none => exact .inl rfl
    | some k => exact .inr (by simp))
def pick (l : List UInt8) (a k : Nat) : List UInt8 := ((l.drop a).take (k - a)).filter (· != 46)
theorem pick_step {l : List UInt8} {a k : Nat} {x : UInt8} (h : a ≤ k) (hx : l[k]? = some x) : pick l a (k + 1) = if x = 46 then pick l a k else pick l a k ++ [x] := by
  unfold pick
  rw [show k + 1 - a = (k - a) + 1 by omega, List.take_add_one, List.getElem?_drop, show a + (k - a) = k by omega, hx, List.filter_append]
  by_cases h46 : x = 46
  · subst h46
    rw [if_pos rfl]
    simp
  · rw [if_neg h46]
    simp [h46]
def oneB (c : UInt8) : List UInt8 := [c]
set_option maxHeartbeats 4000000 in
set_option maxRecDepth 100000 in
theorem mr_any (s : ByteArray) (w : World) (sd neg : Bool) (st : Nat) (hst : (if sd then 1 else 0 : Nat) = st) (hsg : Sgn s sd neg) (hs : s.size ≤ 10000000) :
    Calls Tryd.prog 16 #[.string s] w fun e w' => ∃ v, e = .returned v ∧ Below w.heap.size w w' ∧ Ans s.data.toList st neg v := by
  have HST : Hid _ := hst
  clear hst
  go_enter Tryd.func16, Tryd.ntmps16
  go_upto_region 3 with fail
  go_cut [39] from 24 to 38 (fun v39 wx => v39 = .bool sd ∧ wx = begun w)
  case first =>
    rcases hsg.cases with ⟨h0, rfl, rfl⟩ | ⟨h0, h1, rfl, rfl⟩ | ⟨h0, h1, rfl, rfl⟩ | ⟨h0, h1, h2, rfl, rfl⟩
    · go_wp2_with fail
      go_meet
      case rel => exact ⟨rfl, rfl⟩
    · go_wp2_with fail
      go_meet
      case rel => exact ⟨rfl, rfl⟩
    · go_wp2_with fail
      go_meet
      case rel => exact ⟨rfl, rfl⟩
    · obtain ⟨c, hc⟩ : ∃ c, s[0] = c := ⟨_, rfl⟩
      rw [hc] at h1 h2
      have g1 : ((c.toNat : Int) == 43) = false := byte_ne c 43 h1
      have g2 : ((c.toNat : Int) == 45) = false := byte_ne c 45 h2
      go_wp2_with fail
      go_meet
      case rel => exact ⟨rfl, rfl⟩
  case rest =>
    obtain ⟨rfl, rfl⟩ := hcut
    go_upto_if 39 with fail
    go_cut [4, 5] from 40 to 45 (fun v4 v5 wx => v4 = .int .i64 ((if sd then 1 else 0 : Nat) : Int) ∧ v5 = .bool neg ∧ wx = begun w)
    case first =>
      rcases hsg.cases with ⟨h0, rfl, rfl⟩ | ⟨h0, h1, rfl, rfl⟩ | ⟨h0, h1, rfl, rfl⟩ | ⟨h0, h1, h2, rfl, rfl⟩
      · go_wp2_with fail
        go_meet
        case rel => exact ⟨rfl, rfl, rfl⟩
      · go_wp2_with fail
        go_meet
        case rel => exact ⟨rfl, rfl, rfl⟩
      · go_wp2_with fail
        go_meet
        case rel => exact ⟨rfl, rfl, rfl⟩
      · go_wp2_with fail
        go_meet
        case rel => exact ⟨rfl, rfl, rfl⟩
    case rest =>
      obtain ⟨rfl, rfl, rfl⟩ := hcut
      have hst1 : (if sd then 1 else 0 : Nat) ≤ s.size := by
        rcases hsg.cases with ⟨h0, rfl, rfl⟩ | ⟨h0, h1, rfl, rfl⟩ | ⟨h0, h1, rfl, rfl⟩ | ⟨h0, h1, h2, rfl, rfl⟩
        · exact Nat.zero_le _
        · exact h0
        · exact h0
        · exact Nat.zero_le _
      rw [HST.out] at hst1 ⊢
      clear HST
      go_upto_block 0 with fail
      go_cut [4, 7, 8, 9] from 47 to 66 (fun v4 v7 v8 _ wx => v4 = .int .i64 (endOf s.data.toList st : Int) ∧ v7 = .int .i64 (pntOf s.data.toList st) ∧ v8 = .int .i64 (cntOf s.data.toList st : Int) ∧ wx = begun w)
      case first =>
        go_wp2_with fail
        go_loopg [4, 7, 8, 9] (s.size - st) (fun gg vi vp vc v9 wr => ∃ (i c : Nat) (p : Int), vi = .int .i64 i ∧ vp = .int .i64 p ∧ vc = .int .i64 c ∧ i + gg = s.size ∧ c ≤ i ∧ (p = -1 ∨ 0 ≤ p) ∧ p ≤ i ∧ wr = begun w ∧ Scan s.data.toList i c p (endOf s.data.toList st) (cntOf s.data.toList st) (pntOf s.data.toList st))
        case atStart => exact ⟨st, 0, -1, rfl, rfl, rfl, by omega, by omega, Or.inl rfl, by omega, rfl, Scan.start _ _⟩
        case round =>
          obtain ⟨i, c, p, rfl, rfl, rfl, hig, hci, hp1, hpi, hw, hsc⟩ := hrel
          subst hw
          have HSC : Hid _ := hsc
          have HIG : Hid _ := hig
          clear hsc
          by_cases hi : i < s.size
          · clear hig
            have hds := drop_at s i hi
            obtain ⟨x, hx⟩ : ∃ x, s[i] = x := ⟨_, rfl⟩
            rw [hx] at hds
            have HDS : Hid _ := hds
            clear hds
            have cD := isDigit_any x (begun w)
            cases hdx : dig x with
            | true =>
              rw [hdx] at cD
              have hsc2 := Scan.digit HSC.out hdx HDS.out
              have HSC2 : Hid _ := hsc2
              clear hdx hsc2
              go_wp2_with (first | (go_at_call 32; go_fit cD; rintro e w' ⟨rfl, hw⟩; replace hw := hw.symm; subst hw) | fail)
              have hig := HIG.out
              go_roundg (gk - 1)
              case measure => omega
              case rel => exact ⟨i + 1, c + 1, p, by go_num, rfl, by go_num, by omega, by omega, hp1, by omega, rfl, HSC2.out⟩
            | false =>
              rw [hdx] at cD
              by_cases h46 : x = 46
              · subst h46
                by_cases hp : 0 ≤ p
                · have hstop := Scan.stop HSC.out hp1 (by rw [decide_eq_true hp, HDS.out]; exact scan_stop true 46 _ hdx (by simp))
                  have HSTOP : Hid _ := hstop
                  have hpl : decide (p < 0) = false := decide_eq_false (by omega)
                  clear hdx hstop
                  go_wp2_with (first | (go_at_call 32; go_fit cD; rintro e w' ⟨rfl, hw⟩; replace hw := hw.symm; subst hw) | fail)
                  go_meet
                  case rel =>
                    obtain ⟨e1, e2, e3⟩ := HSTOP.out
                    exact ⟨by rw [e1], by rw [e3], by rw [e2], rfl⟩
                · have hsc2 := Scan.point HSC.out hp HDS.out
                  have HSC2 : Hid _ := hsc2
                  have hpl : decide (p < 0) = true := decide_eq_true (by omega)
                  clear hdx hsc2
                  go_wp2_with (first | (go_at_call 32; go_fit cD; rintro e w' ⟨rfl, hw⟩; replace hw := hw.symm; subst hw) | fail)
                  have hig := HIG.out
                  go_roundg (gk - 1)
                  case measure => omega
                  case rel => exact ⟨i + 1, c, (i : Int), by go_num, rfl, rfl, by omega, by omega, Or.inr (by omega), by omega, rfl, HSC2.out⟩
              · have n46 : ((x.toNat : Int) == 46) = false := byte_ne x 46 h46
                have hstop := Scan.stop HSC.out hp1 (by rw [HDS.out]; exact scan_stop _ x _ hdx (fun h => h46 h.1))
                have HSTOP : Hid _ := hstop
                clear hdx hstop
                go_wp2_with (first | (go_at_call 32; go_fit cD; rintro e w' ⟨rfl, hw⟩; replace hw := hw.symm; subst hw) | fail)
                go_meet
                case rel =>
                  obtain ⟨e1, e2, e3⟩ := HSTOP.out
                  exact ⟨by rw [e1], by rw [e3], by rw [e2], rfl⟩
          · have hstop := Scan.stop HSC.out hp1 (by rw [drop_end s i hi]; rfl)
            have HSTOP : Hid _ := hstop
            clear hstop hig
            go_wp2_with fail
            go_meet
            case rel =>
              obtain ⟨e1, e2, e3⟩ := HSTOP.out
              exact ⟨by rw [e1], by rw [e3], by rw [e2], rfl⟩
      case rest =>
        obtain ⟨rfl, rfl, rfl, rfl⟩ := hcut
        have hlen : s.data.toList.length = s.size := (Lib.size_eq s).symm
        have hEle := endOf_le s.data.toList st (by omega)
        rw [hlen] at hEle
        clear hlen
        obtain ⟨E, hE⟩ : ∃ E, endOf s.data.toList st = E := ⟨_, rfl⟩
        obtain ⟨P, hP⟩ : ∃ P, pntOf s.data.toList st = P := ⟨_, rfl⟩
        obtain ⟨C, hC⟩ : ∃ C, cntOf s.data.toList st = C := ⟨_, rfl⟩
        rw [hE] at hEle
        rw [hE, hP, hC]
        have HE : Hid _ := hE
        have HP : Hid _ := hP
        have HC : Hid _ := hC
        clear hE hP hC
        obtain ⟨k0, k1, k2, f0, f1, f2⟩ := begun_cells (Below.refl (begun w).heap.size (begun w))
        by_cases hc0 : C = 0
        · subst hc0
          have hb := (((begun_below (Below.refl (begun w).heap.size (begun w))).setCell (p := ⟨w.heap.size, 0, none⟩) (Nat.le_refl _) (.bool false)).setCell (p := ⟨w.heap.size, 1, none⟩) (Nat.le_refl _) (.string ⟨#[]⟩)).setCell (p := ⟨w.heap.size, 2, none⟩) (Nat.le_refl _) (.string ⟨#[]⟩)
          go_wp2_with fail
          exact bodyPost_ret (v := badV) (by simp [results, Tryd.results16, go_sem, badV]) rfl ⟨_, rfl, (Below.refl _ w).alloc (Nat.le_refl _) _, Or.inl ⟨HC.out, rfl⟩⟩
        · have hcb : ((C : Int) == 0) = false := beq_eq_false_iff_ne.2 (by omega)
          go_upto_if 74 with fail
          go_cut [4, 11, 12, 13, 14] from 67 to 136 (fun _ v11 v12 _ _ wx => ∃ en em, tailOf s.data.toList E = some (en, em) ∧ v11 = .bool en ∧ v12 = .string ⟨em.toArray⟩ ∧ Below (begun w).heap.size (begun w) wx)
          case first =>
            by_cases hlt : E < s.size
            · have hds := drop_at s E hlt
              obtain ⟨x, hx⟩ : ∃ x, s[E] = x := ⟨_, rfl⟩
              rw [hx] at hds
              by_cases hxe : x = 101 ∨ x = 69
              · have htl : tailOf s.data.toList E = expOf (s.data.toList.drop (E + 1)) := by
                  unfold tailOf
                  rw [hds]
                  simp only
                  rw [if_pos hxe]
                have HTL : Hid _ := htl
                clear htl hds
                go_upto_region 22 with fail
                go_cut [84] from 75 to 83 (fun v84 wx => v84 = .bool false ∧ wx = begun w)
                case first =>
                  rcases hxe with rfl | rfl
                  · go_wp2_with fail
                    go_meet
                    case rel => exact ⟨rfl, rfl⟩
                  · go_wp2_with fail
                    go_meet
                    case rel => exact ⟨rfl, rfl⟩
                case rest =>
                  obtain ⟨rfl, rfl⟩ := hcut
                  clear hxe hx
                  obtain ⟨sd2, ds, hun, hda, hdb, hdc, hcs⟩ := sign_at s (E + 1)
                  have hds2 := hdc (by omega)
                  have HUN : Hid _ := hun
                  have HCS : Hid _ := hcs
                  clear hun hdc hcs
                  go_upto_region 26 with fail
                  go_cut [104] from 67 to 103 (fun v104 wx => v104 = .bool sd2 ∧ wx = begun w)
                  case first =>
                    rcases HCS.out with ⟨h0, rfl, rfl⟩ | ⟨h0, h1, rfl, rfl⟩ | ⟨h0, h1, rfl, rfl⟩ | ⟨h0, h1, h2, rfl, rfl⟩
                    · have hd0 : decide ((E : Int) + 1 < (s.size : Int)) = false := decide_eq_false (by omega)
                      go_wp2_with fail
                      go_meet
                      case rel => exact ⟨rfl, rfl⟩
                    · have hd0 : (E : Int) + 1 < (s.size : Int) := by omega
                      go_wp2_with fail
                      go_meet
                      case rel => exact ⟨rfl, rfl⟩
                    · have hd0 : (E : Int) + 1 < (s.size : Int) := by omega
                      go_wp2_with fail
                      go_meet
                      case rel => exact ⟨rfl, rfl⟩
                    · have hd0 : (E : Int) + 1 < (s.size : Int) := by omega
                      obtain ⟨c, hc⟩ : ∃ c, s[E + 1] = c := ⟨_, rfl⟩
                      rw [hc] at h1 h2
                      have g1 : ((c.toNat : Int) == 43) = false := byte_ne c 43 h1
                      have g2 : ((c.toNat : Int) == 45) = false := byte_ne c 45 h2
                      go_wp2_with fail
                      go_meet
                      case rel => exact ⟨rfl, rfl⟩
                  case rest =>
                    obtain ⟨rfl, rfl⟩ := hcut
                    go_upto_if 104 with fail
                    go_cut [4] from 67 to 106 (fun v4 wx => v4 = .int .i64 (ds : Int) ∧ wx = begun w)
                    case first =>
                      rcases HCS.out with ⟨h0, rfl, rfl⟩ | ⟨h0, h1, rfl, rfl⟩ | ⟨h0, h1, rfl, rfl⟩ | ⟨h0, h1, h2, rfl, rfl⟩
                      · go_wp2_with fail
                        go_meet
                        case rel => exact ⟨by go_num, rfl⟩
                      · go_wp2_with fail
                        go_meet
                        case rel => exact ⟨by go_num, rfl⟩
                      · go_wp2_with fail
                        go_meet
                        case rel => exact ⟨by go_num, rfl⟩
                      · go_wp2_with fail
                        go_meet
                        case rel => exact ⟨by go_num, rfl⟩
                    case rest =>
                      obtain ⟨rfl, rfl⟩ := hcut
                      clear HCS
                      obtain ⟨K, hK⟩ : ∃ K, ((s.data.toList.drop ds).takeWhile dig).length = K := ⟨_, rfl⟩
                      have HK : Hid _ := hK
                      clear hK
                      go_upto_block 2 with fail
                      go_cut [4] from 107 to 119 (fun v4 wx => v4 = .int .i64 ((ds + K : Nat) : Int) ∧ wx = begun w)
                      case first =>
                        go_wp2_with fail
                        go_loopg [4] (s.size - ds) (fun gg vi wr => ∃ i : Nat, vi = .int .i64 i ∧ i + gg = s.size ∧ wr = begun w ∧ i + ((s.data.toList.drop i).takeWhile dig).length = ds + K)
                        case atStart => exact ⟨ds, rfl, by omega, rfl, by rw [HK.out]⟩
                        case round =>
                          obtain ⟨i, rfl, hig, hw, htw⟩ := hrel
                          subst hw
                          have HTW : Hid _ := htw
                          have HIG : Hid _ := hig
                          clear htw hig
                          by_cases hi : i < s.size
                          · have hdx := drop_at s i hi
                            obtain ⟨y, hy⟩ : ∃ y, s[i] = y := ⟨_, rfl⟩
                            rw [hy] at hdx
                            have HDX : Hid _ := hdx
                            clear hdx
                            have cD := isDigit_any y (begun w)
                            have hi1 : (i : Int) < (s.size : Int) := by omega
                            cases hdy : dig y with
                            | true =>
                              rw [hdy] at cD
                              have htw2 := tw_step hdy HDX.out
                              have HTW2 : Hid _ := htw2
                              clear hdy htw2
                              go_wp2_with (first | (go_at_call 32; go_fit cD; rintro e w' ⟨rfl, hw⟩; replace hw := hw.symm; subst hw) | fail)
                              have hig := HIG.out
                              go_roundg (gk - 1)
                              case measure => omega
                              case rel => exact ⟨i + 1, by go_num, by omega, rfl, by rw [HTW2.out]; exact HTW.out⟩
                            | false =>
                              rw [hdy] at cD
                              have hend : i = ds + K := by
                                have := HTW.out
                                rw [HDX.out, List.takeWhile_cons, if_neg (by rw [hdy]; decide)] at this
                                simpa using this
                              have HEND : Hid _ := hend
                              clear hdy hend
                              go_wp2_with (first | (go_at_call 32; go_fit cD; rintro e w' ⟨rfl, hw⟩; replace hw := hw.symm; subst hw) | fail)
                              go_meet
                              case rel => exact ⟨by rw [HEND.out], rfl⟩
                          · have hend : i = ds + K := by
                              have := HTW.out
                              rw [drop_end s i hi] at this
                              simpa using this
                            have HEND : Hid _ := hend
                            have hi1 : decide ((i : Int) < (s.size : Int)) = false := decide_eq_false (by omega)
                            clear hend
                            go_wp2_with fail
                            go_meet
                            case rel => exact ⟨by rw [HEND.out], rfl⟩
                      case rest =>
                        obtain ⟨rfl, rfl⟩ := hcut
                        have hyl : (s.data.toList.drop ds).length = s.size - ds := by rw [List.length_drop, ← Lib.size_eq]
                        by_cases hgood : K ≠ 0 ∧ ds + K = s.size
                        · have hT : (s.extract (E + 1) s.size).data.toList = s.data.toList.drop (E + 1) := by rw [Lib.extract_from]
                          have hTs : (s.extract (E + 1) s.size).size ≤ 100000000 := by rw [Lib.size_eq, hT, List.length_drop, ← Lib.size_eq]; omega
                          have cS := split_any (s.extract (E + 1) s.size) (begun w) hTs
                          rw [hT, HUN.out] at cS
                          have hdg : digs (s.data.toList.drop ds) = true := digs_tw (by rw [HK.out, hyl]; omega)
                          have htl : tailOf s.data.toList E = some (decide ((s.data.toList.drop (E + 1)).head? = some 45), Lib.trimLeftB (s.data.toList.drop ds) 48) := by
                            rw [HTL.out]
                            unfold expOf
                            rw [HUN.out, if_pos ⟨fun e => by rw [e] at hyl; simp at hyl; omega, hdg⟩]
                          obtain ⟨en, hen⟩ : ∃ en, decide ((s.data.toList.drop (E + 1)).head? = some 45) = en := ⟨_, rfl⟩
                          rw [hen] at htl cS
                          clear hen
                          have HT2 : Hid _ := htl
                          have q1 : (((ds + K : Nat) : Int) == (ds : Int)) = false := beq_eq_false_iff_ne.2 (by omega)
                          have q2 : (((ds + K : Nat) : Int) != (s.size : Int)) = false := by
                            rw [hgood.2]
                            simp
                          have q3 : (E : Int) + 1 ≤ (s.size : Int) := by omega
                          obtain ⟨q, hq⟩ : ∃ q, ds + K = q := ⟨_, rfl⟩
                          rw [hq] at q1 q2 ⊢
                          clear hgood hq htl hdg hT hTs hyl
                          go_wp2_with (first | (go_at_call 10; go_fit cS; rintro e w' ⟨rfl, hb4⟩) | fail)
                          go_meet
                          case rel => exact ⟨_, _, HT2.out, rfl, rfl, hb4⟩
                        · have htl : tailOf s.data.toList E = none := by
                            rw [HTL.out]
                            unfold expOf
                            rw [HUN.out, if_neg]
                            rintro ⟨g1, g2⟩
                            have g3 := tw_digs g2
                            rw [HK.out, hyl] at g3
                            have g4 := List.length_pos_iff.2 g1
                            rw [hyl] at g4
                            exact hgood ⟨by omega, by omega⟩
                          have HT2 : Hid _ := htl
                          clear htl hyl
                          by_cases hK0 : K = 0
                          · subst hK0
                            clear hgood
                            go_wp2_with fail
                            exact bodyPost_ret (v := badV) (by simp [results, Tryd.results16, go_sem, badV]) rfl ⟨_, rfl, (Below.refl _ w).alloc (Nat.le_refl _) _, Or.inr (Or.inl ⟨by rw [HC.out]; exact hc0, by rw [HE.out]; exact HT2.out, rfl⟩)⟩
                          · have q1 : (((ds + K : Nat) : Int) == (ds : Int)) = false := beq_eq_false_iff_ne.2 (by omega)
                            have q2 : (((ds + K : Nat) : Int) != (s.size : Int)) = true := by
                              rw [bne_iff_ne]
                              intro e
                              exact hgood ⟨hK0, by omega⟩
                            obtain ⟨q, hq⟩ : ∃ q, ds + K = q := ⟨_, rfl⟩
                            rw [hq] at q1 q2 ⊢
                            clear hgood hq
                            go_wp2_with fail
                            exact bodyPost_ret (v := badV) (by simp [results, Tryd.results16, go_sem, badV]) rfl ⟨_, rfl, (Below.refl _ w).alloc (Nat.le_refl _) _, Or.inr (Or.inl ⟨by rw [HC.out]; exact hc0, by rw [HE.out]; exact HT2.out, rfl⟩)⟩
              · have n1 : ((x.toNat : Int) != 101) = true := by
                  rw [bne_iff_ne]
                  intro e
                  exact hxe (Or.inl (UInt8.toNat_inj.1 (by simp only [UInt8.reduceToNat]; omega)))
                have n2 : ((x.toNat : Int) != 69) = true := by
                  rw [bne_iff_ne]
                  intro e
                  exact hxe (Or.inr (UInt8.toNat_inj.1 (by simp only [UInt8.reduceToNat]; omega)))
                have htl : tailOf s.data.toList E = none := by
                  unfold tailOf
                  rw [hds]
                  simp only
                  rw [if_neg hxe]
                have HTL : Hid _ := htl
                clear htl hds hxe
                go_wp2_with fail
                exact bodyPost_ret (v := badV) (by simp [results, Tryd.results16, go_sem, badV]) rfl ⟨_, rfl, (Below.refl _ w).alloc (Nat.le_refl _) _, Or.inr (Or.inl ⟨by rw [HC.out]; exact hc0, by rw [HE.out]; exact HTL.out, rfl⟩)⟩
            · have hds := drop_end s E hlt
              have htl : tailOf s.data.toList E = some (false, []) := by
                unfold tailOf
                rw [hds]
              have HTL : Hid _ := htl
              clear htl hds
              go_wp2_with fail
              go_meet
              case rel => exact ⟨false, [], HTL.out, rfl, rfl, Below.refl _ _⟩
          case rest =>
            obtain ⟨en, em, htl, rfl, rfl, hbw⟩ := hcut
            have HTL : Hid _ := htl
            have HBW : Hid _ := hbw
            clear htl hbw k0 k1 k2 f0 f1 f2
            have hstE : st ≤ E := by
              rw [← HE.out]
              unfold endOf
              omega
            go_upto_block 4 with fail
            go_cut [15, 16, 17] from 137 to 156 (fun v15 v16 _ wx => ∃ f la : Int, v15 = .int .i64 f ∧ v16 = .int .i64 la ∧ FL s.data.toList st E f la ∧ wx = wc)
            case first =>
              go_wp2_with fail
              go_loopg [15, 16, 17] (E - st) (fun gg v15 v16 v17 wr => ∃ (k : Nat) (f la : Int), v15 = .int .i64 f ∧ v16 = .int .i64 la ∧ v17 = .int .i64 k ∧ k + gg = E ∧ st ≤ k ∧ wr = wc ∧ FL s.data.toList st k f la)
              case atStart => exact ⟨st, -1, -1, rfl, rfl, rfl, by omega, Nat.le_refl _, rfl, FL.start _ _⟩
              case round =>
                obtain ⟨k, f, la, rfl, rfl, rfl, hkg, hstk, hw, hfl⟩ := hrel
                subst hw
                have HFL : Hid _ := hfl
                have HKG : Hid _ := hkg
                clear hfl
                by_cases hk : k < E
                · clear hkg
                  have hks : k < s.size := by omega
                  have hdx := drop_at s k hks
                  obtain ⟨x, hx⟩ : ∃ x, s[k] = x := ⟨_, rfl⟩
                  rw [hx] at hdx
                  have hget : s.data.toList[k]? = some x := by
                    rw [← List.head?_drop, hdx]
                    rfl
                  have HGET : Hid _ := hget
                  clear hdx hget
                  by_cases h46 : x = 46
                  · subst h46
                    have hfl2 := FL.pass HFL.out HGET.out rfl
                    have HFL2 : Hid _ := hfl2
                    clear hfl2
                    go_wp2_with fail
                    have hkg := HKG.out
                    go_roundg (gk - 1)
                    case measure => omega
                    case rel => exact ⟨k + 1, f, la, rfl, rfl, by go_num, by omega, by omega, rfl, HFL2.out⟩
                  · have n46 : ((x.toNat : Int) != 46) = true := by
                      rw [bne_iff_ne]
                      intro e
                      exact h46 (UInt8.toNat_inj.1 (by simp only [UInt8.reduceToNat]; omega))
                    by_cases h48 : x = 48
                    · subst h48
                      have hfl2 := FL.pass HFL.out HGET.out rfl
                      have HFL2 : Hid _ := hfl2
                      clear hfl2
                      go_wp2_with fail
                      have hkg := HKG.out
                      go_roundg (gk - 1)
                      case measure => omega
                      case rel => exact ⟨k + 1, f, la, rfl, rfl, by go_num, by omega, by omega, rfl, HFL2.out⟩
                    · have n48 : ((x.toNat : Int) != 48) = true := by
                        rw [bne_iff_ne]
                        intro e
                        exact h48 (UInt8.toNat_inj.1 (by simp only [UInt8.reduceToNat]; omega))
                      have hfl2 := FL.hit HFL.out hstk HGET.out (by simp [nz, h46, h48])
                      by_cases hf : f < 0
                      · rw [if_pos hf] at hfl2
                        have hfb : decide (f < 0) = true := decide_eq_true hf
                        have HFL2 : Hid _ := hfl2
                        clear hfl2
                        go_wp2_with fail
                        have hkg := HKG.out
                        go_roundg (gk - 1)
                        case measure => omega
                        case rel => exact ⟨k + 1, (k : Int), (k : Int), rfl, rfl, by go_num, by omega, by omega, rfl, HFL2.out⟩
                      · rw [if_neg hf] at hfl2
                        have hfb : decide (f < 0) = false := decide_eq_false hf
                        have HFL2 : Hid _ := hfl2
                        clear hfl2
                        go_wp2_with fail
                        have hkg := HKG.out
                        go_roundg (gk - 1)
                        case measure => omega
                        case rel => exact ⟨k + 1, f, (k : Int), rfl, rfl, by go_num, by omega, by omega, rfl, HFL2.out⟩
                · obtain rfl : k = E := by omega
                  clear hkg HKG
                  go_wp2_with fail
                  go_meet
                  case rel => exact ⟨f, la, rfl, rfl, HFL.out, rfl⟩
            case rest =>
              obtain ⟨f, la, rfl, rfl, hfl, rfl⟩ := hcut
              rcases hfl with hfl | hfl
              · obtain ⟨rfl, rfl, hfl⟩ := hfl
                have HFL : Hid _ := hfl
                clear hfl
                obtain ⟨k0, k1, k2, f0, f1, f2⟩ := begun_cells HBW.out
                have hb := (((begun_below HBW.out).setCell (p := ⟨w.heap.size, 0, none⟩) (Nat.le_refl _) (.bool false)).setCell (p := ⟨w.heap.size, 1, none⟩) (Nat.le_refl _) (.string ⟨#[]⟩)).setCell (p := ⟨w.heap.size, 2, none⟩) (Nat.le_refl _) (.string ⟨#[48]⟩)
                go_wp2_with fail
                exact bodyPost_ret (v := .tuple #[.bool true, .agg #[.bool false, .string ⟨#[]⟩, .string ⟨#[48]⟩]]) (by simp [results, Tryd.results16, go_sem, k0, k1, k2]) rfl ⟨_, rfl, hb, Or.inr (Or.inr ⟨by rw [HC.out]; exact hc0, en, em, by rw [HE.out]; exact HTL.out, Or.inl ⟨by rw [HE.out]; exact Or.inl ⟨rfl, rfl, HFL.out⟩, rfl⟩⟩)⟩
              · obtain ⟨a, z, rfl, rfl, h3, h4, h5, h6, h7, h8, h9⟩ := hfl
                have HFL : Hid _ := (⟨h6, h7, h8, h9⟩ : _ ∧ _ ∧ _ ∧ _)
                clear h6 h7 h8 h9
                obtain ⟨w3, hw3⟩ : ∃ w3, w3 = wc := ⟨_, rfl⟩
                subst hw3
                obtain ⟨i0, hi, hz0, hz1, hz2⟩ := info_parts Tryd.info5
                have hfb : decide ((a : Int) < 0) = false := decide_eq_false (by omega)
                go_wp2_with (at_make; refine wpList_make_own _ rfl _ _ 46 rfl w3.heap.size 5 i0 (.int .u8 0) 1 Tryd.underlying46 hi hz0 hz1 _ _ _ (z - a + 1) rfl rfl (by omega) (by rw [hz2]; omega) (by unfold maxLen; omega) (Nat.le_refl _) ?_)
                intro w1 ho1 hg1
                have hb1 : Below w3.heap.size w3 w1 := (Below.refl _ _).grown hg1 (Nat.le_refl _) (fun k hk => by cases hk)
                have HB1 : Hid _ := hb1
                clear hb1 hg1
                go_upto_block 6 with fail
                go_cut [18, 19] from 157 to 180 (fun v18 _ wx => ∃ n : Nat, n = (pick s.data.toList a (z + 1)).length ∧ wx.ownsRow w3.heap.size 5 1 v18 n (bcs (pick s.data.toList a (z + 1))) ∧ Below w3.heap.size w3 wx)
                case first =>
                  go_wp2_with fail
                  go_loopg [18, 19] (z + 1 - a) (fun gg v18 v19 wr => ∃ k n : Nat, v19 = .int .i64 k ∧ k + gg = z + 1 ∧ a ≤ k ∧ n ≤ k ∧ n = (pick s.data.toList a k).length ∧ wr.ownsRow w3.heap.size 5 1 v18 n (bcs (pick s.data.toList a k)) ∧ Below w3.heap.size w3 wr)
                  case atStart =>
                    refine ⟨a, 0, rfl, by omega, Nat.le_refl _, Nat.zero_le _, ?_, ?_, HB1.out⟩
                    · unfold pick
                      rw [Nat.sub_self]
                      rfl
                    · have : pick s.data.toList a a = [] := by
                        unfold pick
                        rw [Nat.sub_self]
                        rfl
                      rw [this]
                      exact ho1
                  case round =>
                    obtain ⟨k, n, rfl, hkg, hak, hnk, hn, hown, hbel⟩ := hrel
                    have HKG : Hid _ := hkg
                    have HBEL : Hid _ := hbel
                    clear ho1 HB1
                    by_cases hk : k ≤ z
                    · clear hkg
                      have hks : k < s.size := by omega
                      have hdx := drop_at s k hks
                      obtain ⟨x, hx⟩ : ∃ x, s[k] = x := ⟨_, rfl⟩
                      rw [hx] at hdx
                      have hget : s.data.toList[k]? = some x := by
                        rw [← List.head?_drop, hdx]
                        rfl
                      have hps := pick_step hak hget
                      clear hdx hget
                      by_cases h46 : x = 46
                      · subst h46
                        rw [if_pos rfl] at hps
                        rw [← hps] at hn hown
                        have HN : Hid _ := hn
                        have HOWN : Hid _ := hown
                        clear hn hown hps hbel
                        go_wp2_with fail
                        have hkg := HKG.out
                        go_roundg (gk - 1)
                        case measure => omega
                        case rel => exact ⟨k + 1, n, by go_num, by omega, by omega, by omega, HN.out, HOWN.out, HBEL.out⟩
                      · rw [if_neg h46] at hps
                        have n46 : ((x.toNat : Int) != 46) = true := by
                          rw [bne_iff_ne]
                          intro e
                          exact h46 (UInt8.toNat_inj.1 (by simp only [UInt8.reduceToNat]; omega))
                        obtain ⟨L, hL⟩ : ∃ L, pick s.data.toList a k = L := ⟨_, rfl⟩
                        rw [hL] at hps hn hown
                        have HPS : Hid _ := hps
                        have HN : Hid _ := hn
                        have hBw : w3.heap.size ≤ wr.heap.size := hbel.size
                        clear hps hn hL hbel
                        go_wp2_with (at_builtin; refine Hid.out ?_)
                        refine Lib.hid ?_
                        refine wpList_appB (P := Tryd.prog) Tryd.underlying46 Tryd.info5 wr rfl (.tmp 175) (.tmp 179) rfl w3.heap.size u18 n L (by rfl) hown hBw _ (oneB x) (by rfl) 1 rfl (by rfl) (by omega) ?_
                        intro v' w' ho' hb' _
                        go_wp2_with fail
                        have hkg := HKG.out
                        go_roundg (gk - 1)
                        case measure => omega
                        case rel =>
                          refine ⟨k + 1, n + 1, by go_num, by omega, by omega, by omega, ?_, ?_, HBEL.out.trans hb'⟩
                          · rw [HPS.out, HN.out, List.length_append]
                            rfl
                          · rw [HPS.out]
                            exact ho'
                    · obtain rfl : k = z + 1 := by omega
                      have HN : Hid _ := hn
                      clear hn hkg HKG hbel
                      have hkb : decide (((z + 1 : Nat) : Int) ≤ (z : Int)) = false := decide_eq_false (by omega)
                      go_wp2_with fail
                      go_meet
                      case rel => exact ⟨n, HN.out, hown, HBEL.out⟩
                case rest =>
                  obtain ⟨n, hn, hown, hbel⟩ := hcut
                  obtain ⟨w4, hw4⟩ : ∃ w4, w4 = wc := ⟨_, rfl⟩
                  subst hw4
                  obtain ⟨hmg, hml⟩ := tail_mag HTL.out
                  have hpc := pnt_cases s.data.toList st (by rw [← Lib.size_eq]; exact hst1)
                  rw [HE.out, HP.out] at hpc
                  have HBL : Hid _ := hbel
                  have HMG : Hid _ := hmg
                  have HML : Hid _ := hml
                  clear hn hbel hmg hml
                  obtain ⟨WE, hWE⟩ : ∃ WE : Int, (if 0 ≤ P then P else (E : Int)) = WE := ⟨_, rfl⟩
                  have hpl0 : placeOf E P z = if (z : Int) < WE then WE - 1 - z else -((z : Int) - P) := by
                    unfold placeOf
                    rw [hWE]
                  have hwe : (P = -1 ∧ WE = E) ∨ (0 ≤ P ∧ P < E ∧ WE = P) := by
                    rcases hpc with rfl | ⟨hp0, hp1⟩
                    · exact Or.inl ⟨rfl, by rw [← hWE, if_neg (by decide)]⟩
                    · exact Or.inr ⟨hp0, hp1, by rw [← hWE, if_pos hp0]⟩
                  have HP0 : Hid _ := hpl0
                  clear hWE hpl0 hpc
                  go_upto_if 183 with fail
                  go_cut [20] from 181 to 184 (fun v20 wx => v20 = .int .i64 WE ∧ wx = w4)
                  case first =>
                    rcases hwe with ⟨rfl, rfl⟩ | ⟨hp0, hp1, rfl⟩
                    · go_wp2_with fail
                      go_meet
                      case rel => exact ⟨rfl, rfl⟩
                    · have q2 : decide (0 ≤ WE) = true := decide_eq_true hp0
                      go_wp2_with fail
                      go_meet
                      case rel => exact ⟨rfl, rfl⟩
                  case rest =>
                  obtain ⟨rfl, hw⟩ := hcut
                  replace hw := hw.symm
                  subst hw
                  go_upto_if 187 with fail
                  go_cut [21, 22] from 185 to 194 (fun v21 v22 wx => ∃ (pn : Bool) (u : Nat), v21 = .bool pn ∧ v22 = .int .i64 u ∧ u < 100000000 ∧ sg pn u = placeOf E P z ∧ wx = w4)
                  case first =>
                    by_cases hzw : (z : Int) < WE
                    · have q1 : decide ((z : Int) < WE) = true := decide_eq_true hzw
                      have hr1 : -9223372036854775808 ≤ WE := by omega
                      have hr2 : WE ≤ 9223372036854775807 := by omega
                      go_wp2_with fail
                      go_meet
                      case rel =>
                        refine ⟨false, (WE - 1 - z).toNat, rfl, by go_num, by omega, ?_, rfl⟩
                        rw [HP0.out, if_pos (by omega)]
                        unfold sg
                        rw [if_neg (by decide)]
                        omega
                    · have q1 : decide ((z : Int) < WE) = false := decide_eq_false hzw
                      have hr1 : 0 ≤ P := by omega
                      have hr2 : P ≤ 9223372036854775807 := by omega
                      go_wp2_with fail
                      go_meet
                      case rel =>
                        refine ⟨true, ((z : Int) - P).toNat, rfl, by go_num, by omega, ?_, rfl⟩
                        rw [HP0.out, if_neg (by omega)]
                        unfold sg
                        rw [if_pos rfl]
                        omega
                  case rest =>
                    obtain ⟨pn, u, rfl, rfl, hu, hpl, hw⟩ := hcut
                    replace hw := hw.symm
                    subst hw
                    have HPL : Hid _ := hpl
                    clear hpl hwe HP0
                    have cU := utoa_any u w4 hu
                    have cM := fun wk => msum_any en pn ⟨em.toArray⟩ ⟨(mag u).toArray⟩ wk (by rw [Lib.size_mk]; have := HML.out; rw [← Lib.size_eq] at this; omega) (by rw [Lib.size_mk]; have := mag_len (u := u) (k := 8) (by omega); omega) HMG.out (mag_Mag u)
                    have hvm : sg pn (val (⟨(mag u).toArray⟩ : ByteArray).data.toList) = placeOf E P z := by
                      show sg pn (val (mag u)) = _
                      rw [val_mag]
                      exact HPL.out
                    rw [hvm] at cM
                    clear hvm HPL HMG HML
                    go_wp2_with (first | (go_at_call 21; go_fit cU; rintro e w' ⟨rfl, hb5⟩) | (go_at_call 12; go_fit (cM _); rintro e w'' ⟨rfl, hb6⟩) | fail)
                    have hown2 := ownsRow_below (ownsRow_below hown hb5) hb6
                    have G2 : Below (begun w).heap.size (begun w) w'' := below_next (below_next (below_next HBW.out HBL.out) hb5) hb6
                    clear hown hb5 hb6 HBW HBL cU cM ho1 HB1
                    obtain ⟨k0, k1, k2, f0, f1, f2⟩ := begun_cells G2
                    have hcv := conv_row Tryd.underlying46 Tryd.underlying5 Tryd.underlying9 hown2.drew
                    have G3 : Hid _ := G2
                    clear G2 hown2
                    go_region
                    all_goals
                      have hb := (((begun_below G3.out.drew).setCell (p := ⟨w.heap.size, 0, none⟩) (Nat.le_refl _) (.bool neg)).setCell (p := ⟨w.heap.size, 1, none⟩) (Nat.le_refl _) (.string ⟨(pick s.data.toList a (z + 1)).toArray⟩)).setCell (p := ⟨w.heap.size, 2, none⟩) (Nat.le_refl _) (.string ⟨(Lib.itoa (sg en (val em) + placeOf E P z)).toArray⟩)
                      go_wp2_with fail
                      exact bodyPost_ret (v := .tuple #[.bool true, .agg #[.bool neg, .string ⟨(pick s.data.toList a (z + 1)).toArray⟩, .string ⟨(Lib.itoa (sg en (val em) + placeOf E P z)).toArray⟩]]) (by simp [results, Tryd.results16, go_sem, k0, k1, k2]) rfl ⟨_, rfl, hb, Or.inr (Or.inr ⟨by rw [HC.out]; exact hc0, en, em, by rw [HE.out]; exact HTL.out, Or.inr ⟨a, z, by rw [HE.out]; exact Or.inr ⟨a, z, rfl, rfl, h3, h4, h5, HFL.out⟩, by rw [HE.out, HP.out]; rfl⟩⟩)⟩
end Go.Proofs.Qxb6606029aDoor
