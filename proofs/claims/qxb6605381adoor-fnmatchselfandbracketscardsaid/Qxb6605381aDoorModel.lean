/-
  closeStars and globModel, by their contracts.
-/
import Derived.Test.Qxb6605381aDoorGlob
import Derived.Laws.OwnMore
import Derived.OwnWalk
namespace Go.Proofs.Qxb6605381aDoor
open Go.RowKit Gl

theorem Tryd.info4 : (Tryd.prog.info? 4).map (fun i => (i.zero, i.size, i.bytes)) = some (some (.bool false), 1, 1) := by kernel_rfl
/-- bools as cells -/
def bls (l : List Bool) : List Value := l.map Value.bool
theorem bls_length (l : List Bool) : (bls l).length = l.length := by simp [bls]
theorem bls_set (l : List Bool) (k : Nat) (b : Bool) : (bls l).set k (.bool b) = bls (l.set k b) := by simp [bls, List.map_set]
theorem bls_get (l : List Bool) (k : Nat) : (bls l)[k]? = l[k]?.map Value.bool := by simp [bls]

/-- The row at a block. -/
abbrev sl (g n : Nat) : Value := .slice (some ⟨g, 0, none⟩) n n
theorem grown_trans {w w1 w2 : World} {r : Option Nat} (h : w.grownBy w1 r) (h2 : w1.grownBy w2 r) : w.grownBy w2 r :=
  ⟨h2.os.trans h.os, h2.tape.trans h.tape, h2.output.trans h.output, Nat.le_trans h.size h2.size, fun k hk hr => (h2.block k (Nat.lt_of_lt_of_le hk h.size) hr).trans (h.block k hk hr)⟩
theorem grown_drew {w w1 : World} {r : Option Nat} (h : w.grownBy w1 r) : w.grownBy w1.drew r := ⟨h.os, h.tape, h.output, h.size, h.block⟩
theorem grown_drewN {w w1 : World} {r : Option Nat} (h : w.grownBy w1 r) : ∀ n, w.grownBy (w1.drewN n) r
  | 0 => h
  | n + 1 => grown_drew (grown_drewN h n)

theorem clo_succ (pat : List UInt8) (set : List Bool) (k : Nat) : clo pat set (k + 1) = if (clo pat set k)[k]? = some true ∧ pat[k]? = some 42 then (clo pat set k).set (k + 1) true else clo pat set k := rfl
theorem pat_get (pat : ByteArray) (k : Nat) (h : k < pat.size) : pat.data.toList[k]? = some pat[k] := by
  rw [List.getElem?_eq_getElem (by simpa using h)]
  rfl

set_option maxHeartbeats 1000000 in
/-- closeStars -/
theorem close_any (pat : ByteArray) (B g : Nat) (l : List Bool) (w : World) (hp : pat.size ≤ 100000000) (hl : l.length = pat.size + 1) (ho : w.ownsRow B 4 1 (sl g (pat.size + 1)) (pat.size + 1) (bls l)) :
    Calls Tryd.prog 32 #[.string pat, sl g (pat.size + 1)] w fun e w' => e = .returned (.tuple #[]) ∧ w'.ownsRow B 4 1 (sl g (pat.size + 1)) (pat.size + 1) (bls (clo pat.data.toList l pat.size)) ∧ w.grownBy w' (some g) := by
  go_enter Tryd.func32, Tryd.ntmps32
  go_wp2_with fail
  go_loopg [4] pat.size (fun gg i wr => ∃ k : Nat, k + gg = pat.size ∧ i = .int .i64 k ∧ wr.ownsRow B 4 1 (sl g (pat.size + 1)) (pat.size + 1) (bls (clo pat.data.toList l k)) ∧ w.grownBy wr (some g))
  case atStart => exact ⟨0, by omega, rfl, ho, World.grownBy.refl _ _⟩
  case round =>
    obtain ⟨k, hk, rfl, hok, hgr⟩ := hrel
    have HG : Hid _ := hk
    clear hk ho
    have hcl := clo_length pat.data.toList l k
    have hcs := clo_succ pat.data.toList l k
    obtain ⟨C, hC⟩ : ∃ C, clo pat.data.toList l k = C := ⟨_, rfl⟩
    rw [hC] at hok hcl hcs
    have HCC : Hid _ := hC
    clear hC
    have HCS : Hid _ := hcs
    clear hcs
    by_cases hlt : k < pat.size
    · have hpg := pat_get pat k hlt
      obtain ⟨x, hx⟩ : ∃ x, pat[k] = x := ⟨_, rfl⟩
      rw [hx] at hpg
      have hce := hok.cellAt k (by omega)
      have hgk : C[k]? = some C[k] := List.getElem?_eq_getElem (by omega)
      rw [bls_get, hgk] at hce
      obtain ⟨b, hb⟩ : ∃ b, C[k] = b := ⟨_, rfl⟩
      rw [hb] at hce hgk
      clear hb
      simp only [Option.map_some] at hce
      have HGK : Hid _ := hgk
      have HPG : Hid _ := hpg
      clear hgk hpg
      cases b with
      | true =>
        by_cases h42 : x = 42
        · subst h42
          have hs := hok.stored (k + 1) (.bool true)
          rw [bls_set] at hs
          have hfz := hok.frozenAt (k + 1)
          have hce2 := hok.cellAt (k + 1) (by omega)
          have hgk2 : C[k + 1]? = some C[k + 1] := List.getElem?_eq_getElem (by omega)
          rw [bls_get, hgk2] at hce2
          simp only [Option.map_some] at hce2
          clear hgk2
          go_wp2_with fail
          go_roundg (pat.size - (k + 1))
          case measure => have := HG.out; omega
          case rel => exact ⟨k + 1, by omega, by go_num, by rw [HCS.out, if_pos ⟨HGK.out, HPG.out⟩]; exact hs.1, grown_trans hgr hs.2⟩
        · have n42 : ((x.toNat : Int) == 42) = false := byte_ne x 42 h42
          go_wp2_with fail
          go_roundg (pat.size - (k + 1))
          case measure => have := HG.out; omega
          case rel => exact ⟨k + 1, by omega, by go_num, by rw [HCS.out, if_neg (fun h => h42 (Option.some.inj (HPG.out.symm.trans h.2)))]; exact hok, hgr⟩
      | false =>
        go_wp2_with fail
        go_roundg (pat.size - (k + 1))
        case measure => have := HG.out; omega
        case rel => exact ⟨k + 1, by omega, by go_num, by rw [HCS.out, if_neg (fun h => by have := HGK.out.symm.trans h.1; cases this)]; exact hok, hgr⟩
    · have hkk : k = pat.size := by have := HG.out; omega
      have e := HCC.out
      rw [hkk] at e
      rw [← e] at hok
      clear e hkk
      go_wp2_with fail
      go_end0
      exact ⟨rfl, hok, hgr⟩

theorem ownsRow_drewN {w : World} {B : Nat} {e : TypeId} {sz : Nat} {v : Value} {n : Nat} {xs : List Value} (h : w.ownsRow B e sz v n xs) : ∀ q, (w.drewN q).ownsRow B e sz v n xs
  | 0 => h
  | q + 1 => (ownsRow_drewN h q).drew
theorem kept_row {w w' : World} {B g1 g2 n m : Nat} {e : TypeId} {xs : List Value} (h : w.ownsRow B e 1 (sl g1 n) m xs) (hg : w.grownBy w' (some g2)) (hne : g1 ≠ g2) : w'.ownsRow B e 1 (sl g1 n) m xs :=
  h.kept hg (.inr (by simp [Value.ownBlock, hne]))
theorem below_grown {w w' : World} {B g : Nat} {r : World} (hb : Below B r w) (hg : w.grownBy w' (some g)) (hB : B ≤ g) (hs : B ≤ w.heap.size) : Below B r w' :=
  hb.grown hg hs (fun k hk => by cases hk; exact hB)
/-- A cell of a row of bools. -/
theorem row_cell {w : World} {B g n : Nat} {l : List Bool} (h : w.ownsRow B 4 1 (sl g n) n (bls l)) (k : Nat) (hk : k < n) : ∃ b, l[k]? = some b ∧ w.cell? ⟨g, k, none⟩ = some (.bool b) := by
  have hl := h.1
  rw [bls_length, Nat.mul_one] at hl
  have hce := h.cellAt k (by omega)
  have hgk : l[k]? = some l[k] := List.getElem?_eq_getElem (by omega)
  rw [bls_get, hgk] at hce
  exact ⟨_, hgk, hce⟩

/-- 'next[j] = false' for the first k places. -/
def rst (N : List Bool) (k : Nat) : List Bool := List.replicate k false ++ N.drop k
theorem rst_set (N : List Bool) (k : Nat) (h : k < N.length) : (rst N k).set k false = rst N (k + 1) := by
  unfold rst
  have e : (List.replicate k false).length = k := by simp
  rw [List.set_append_right _ _ (by rw [e]; exact Nat.le_refl _), e, Nat.sub_self, List.drop_eq_getElem_cons h, List.replicate_succ', List.append_assoc]
  rfl
theorem rst_all (N : List Bool) (n : Nat) (h : N.length = n) : rst N n = List.replicate n false := by
  unfold rst
  rw [List.drop_of_length_le (by omega)]
  simp
theorem nx_succ (pat : List UInt8) (cur : List Bool) (c : UInt8) (k : Nat) : nx pat cur c (k + 1) = if cur[k]? = some true then (if pat[k]? = some 42 then (nx pat cur c k).set k true else if pat[k]? = some c then (nx pat cur c k).set (k + 1) true else nx pat cur c k) else nx pat cur c k := rfl

set_option maxRecDepth 100000 in
set_option maxHeartbeats 4000000 in
/-- globModel -/
theorem model_any (pat s : ByteArray) (w : World) (hp : pat.size ≤ 1000000) (hs : s.size ≤ 1000000) :
    Calls Tryd.prog 11 #[.string pat, .string s] w fun e w' => e = .returned (.bool (gm pat.data.toList s.data.toList)) ∧ Below w.heap.size w w' := by
  obtain ⟨i0, hi, hz0, hz1, hz2⟩ := info_parts Tryd.info4
  have hpl : pat.data.toList.length = pat.size := by simp
  have HPL : Hid _ := hpl
  clear hpl
  go_enter Tryd.func11, Tryd.ntmps11
  go_wp2_with (at_make; refine wpList_make_full _ rfl (.tmp 14) (.tmp 14) 51 rfl w.heap.size 4 i0 (.bool false) 1 Tryd.underlying51 hi hz0 hz1 _ _ _ _ (pat.size + 1) rfl rfl (by omega) (by omega) (by rw [hz2]; omega) (by unfold maxLen; omega) (Nat.le_refl _) ?_)
  intro w1 ho1 hg1
  rw [toList_madeCells_one] at ho1
  have hA1 : w1.ownsRow w.heap.size 4 1 (sl w.heap.size (pat.size + 1)) (pat.size + 1) (bls (List.replicate (pat.size + 1) false)) := by
    rw [bls, List.map_replicate]; exact ho1
  have hb1 : Below w.heap.size w w1 := (Below.refl _ _).grown hg1 (Nat.le_refl _) (fun k hk => by cases hk)
  have hlt1 := (hA1.lt _ rfl).2
  clear ho1 hg1
  go_wp2_with (at_make; refine wpList_make_full _ rfl (.tmp 17) (.tmp 17) 51 rfl w.heap.size 4 i0 (.bool false) 1 Tryd.underlying51 hi hz0 hz1 _ _ _ _ (pat.size + 1) rfl rfl (by omega) (by omega) (by rw [hz2]; omega) (by unfold maxLen; omega) hb1.size ?_)
  intro w2 ho2 hg2
  rw [toList_madeCells_one] at ho2
  have hN2 : w2.ownsRow w.heap.size 4 1 (sl w1.heap.size (pat.size + 1)) (pat.size + 1) (bls (List.replicate (pat.size + 1) false)) := by
    rw [bls, List.map_replicate]; exact ho2
  have hA2 := hA1.kept hg2 (.inr (by simp [Value.ownBlock]))
  have hb2 : Below w.heap.size w w2 := hb1.grown hg2 hb1.size (fun k hk => by cases hk)
  have hB2 : w.heap.size ≤ w1.heap.size := hb1.size
  have hne : w.heap.size ≠ w1.heap.size := by omega
  clear ho2 hg2 hA1 hb1 hlt1
  obtain ⟨g2, HG2⟩ : ∃ g2, Hid (w1.heap.size = g2) := ⟨_, rfl⟩
  have hs2 := hA2.stored 0 (.bool true)
  have hfz2 := hA2.frozenAt 0
  obtain ⟨b0, _, hce2⟩ := row_cell hA2 0 (by omega)
  rw [bls_set] at hs2
  have hst : (List.replicate (pat.size + 1) false).set 0 true = st0 pat.data.toList := by
    unfold st0
    rw [HPL.out, List.replicate_succ]
    rfl
  rw [hst] at hs2
  clear hst
  obtain ⟨hA3, hg3⟩ := hs2
  have hN3 := kept_row hN2 hg3 (Ne.symm hne)
  have hb3 := below_grown hb2 hg3 (Nat.le_refl _) hb2.size
  clear hA2 hN2 hg3 hb2
  have c32 := close_any pat w.heap.size w.heap.size (st0 pat.data.toList) _ (by omega) (by rw [st0, List.length_cons, List.length_replicate, HPL.out]) hA3
  go_wp2_with (go_at_call 32; go_fit c32; rintro e w4 ⟨rfl, hA4, hg4⟩; refine Hid.out ?_)
  refine Lib.hid ?_
  have hN4 := kept_row hN3 hg4 (Ne.symm hne)
  have hb4 := below_grown hb3 hg4 (Nat.le_refl _) hb3.size
  clear hA3 hN3 hb3 hg4 c32 hce2 hfz2
  go_wp2_with fail
  go_loopg [6, 7, 8] s.size (fun g v6 v7 v8 wr => ∃ (i g1 g2 : Nat) (C N : List Bool), i + g = s.size ∧ v8 = .int .i64 i ∧ v6 = sl g1 (pat.size + 1) ∧ v7 = sl g2 (pat.size + 1) ∧ g1 ≠ g2 ∧ w.heap.size ≤ g1 ∧ w.heap.size ≤ g2 ∧
      wr.ownsRow w.heap.size 4 1 (sl g1 (pat.size + 1)) (pat.size + 1) (bls C) ∧ wr.ownsRow w.heap.size 4 1 (sl g2 (pat.size + 1)) (pat.size + 1) (bls N) ∧
      closedTo pat.data.toList C pat.data.toList.length ∧ (live pat.data.toList C (s.data.toList.drop i) ↔ gm pat.data.toList s.data.toList = true) ∧ Below w.heap.size w wr)
  case atStart =>
    refine ⟨0, w.heap.size, w1.heap.size, _, _, by omega, rfl, rfl, rfl, hne, Nat.le_refl _, hB2, hA4, hN4, ?_, ?_, hb4⟩
    · rw [← HPL.out]
      exact clo_closed _ _ (by rw [st0, List.length_cons, List.length_replicate]) _ (Nat.le_refl _)
    · rw [List.drop_zero, clo_live, st0_live]
  case round =>
    clear hA4 hN4 hb4 hne hB2 HG2
    obtain ⟨i, g1, g2, C, N, hig, rfl, rfl, rfl, hne, hB1, hB2, hC, hN, hcl, hlv, hb⟩ := hrel
    have HCL : Hid _ := hcl
    have HLV : Hid _ := hlv
    have HIG : Hid _ := hig
    clear hcl hlv hig
    have hNl := hN.1
    rw [bls_length, Nat.mul_one] at hNl
    by_cases hlt : i < s.size
    · obtain ⟨y, hy⟩ : ∃ y, s[i] = y := ⟨_, rfl⟩
      have hds := drop_at s i hlt
      rw [hy] at hds
      have HDS : Hid _ := hds
      clear hds
      obtain ⟨W, HW⟩ : ∃ W, Hid (wr = W) := ⟨_, rfl⟩
      have hCW : W.ownsRow w.heap.size 4 1 (sl g1 (pat.size + 1)) (pat.size + 1) (bls C) := HW.out ▸ hC
      have hbW : Below w.heap.size w W := HW.out ▸ hb
      clear hC hb
      go_wp2_with fail
      go_loopg [9] (pat.size + 1) (fun g v9 wy => ∃ k : Nat, k + g = pat.size + 1 ∧ v9 = .int .i64 k ∧ wy.ownsRow w.heap.size 4 1 (sl g2 (pat.size + 1)) (pat.size + 1) (bls (rst N k)) ∧ W.grownBy wy (some g2))
      case atStart => exact ⟨0, by omega, rfl, hN, HW.out ▸ World.grownBy.refl _ _⟩
      case round =>
        clear hN HW
        obtain ⟨k, hkg, rfl, hR, hgr⟩ := hrel
        have HKG : Hid _ := hkg
        clear hkg
        by_cases hk : k ≤ pat.size
        · have hs := hR.stored k (.bool false)
          rw [bls_set, rst_set N k (by omega)] at hs
          have hfz := hR.frozenAt k
          obtain ⟨b, _, hce⟩ := row_cell hR k (by omega)
          go_wp2_with fail
          go_roundg (pat.size + 1 - (k + 1))
          case measure => have := HKG.out; omega
          case rel => exact ⟨k + 1, by omega, by go_num, hs.1, grown_trans hgr hs.2⟩
        · have hkk : k = pat.size + 1 := by have := HKG.out; omega
          have hR0 : wr.ownsRow w.heap.size 4 1 (sl g2 (pat.size + 1)) (pat.size + 1) (bls (nx pat.data.toList C y 0)) := by
            rw [hkk, rst_all N (pat.size + 1) hNl] at hR
            show wr.ownsRow _ _ _ _ _ (bls (List.replicate (pat.data.toList.length + 1) false))
            rw [HPL.out]
            exact hR
          clear hR hkk
          go_wp2_with fail
          go_loopg [10] pat.size (fun g v10 wz => ∃ k : Nat, k + g = pat.size ∧ v10 = .int .i64 k ∧ wz.ownsRow w.heap.size 4 1 (sl g2 (pat.size + 1)) (pat.size + 1) (bls (nx pat.data.toList C y k)) ∧ W.grownBy wz (some g2))
          case atStart => exact ⟨0, by omega, rfl, hR0, hgr⟩
          case round =>
            clear hR0 hgr HKG hk
            obtain ⟨k, hkg, rfl, hR, hgr⟩ := hrel
            have HKG : Hid _ := hkg
            clear hkg
            by_cases hkm : k < pat.size
            · have hCz := kept_row hCW hgr hne
              obtain ⟨b, hgb, hce⟩ := row_cell hCz k (by omega)
              have hpg := pat_get pat k hkm
              obtain ⟨x, hx⟩ : ∃ x, pat[k] = x := ⟨_, rfl⟩
              rw [hx] at hpg
              have hns := nx_succ pat.data.toList C y k
              obtain ⟨X, hX⟩ : ∃ X, nx pat.data.toList C y k = X := ⟨_, rfl⟩
              rw [hX] at hR hns
              rw [hgb, hpg] at hns
              have HNS : Hid _ := hns
              clear hX hns hpg hgb hCz
              cases b with
              | true =>
                by_cases h42 : x = 42
                · subst h42
                  have hs := hR.stored k (.bool true)
                  rw [bls_set] at hs
                  have hfz := hR.frozenAt k
                  obtain ⟨b2, _, hce2⟩ := row_cell hR k (by omega)
                  go_wp2_with fail
                  go_roundg (pat.size - (k + 1))
                  case measure => have := HKG.out; omega
                  case rel => exact ⟨k + 1, by omega, by go_num, by rw [HNS.out, if_pos trivial, if_pos trivial]; exact hs.1, grown_trans hgr hs.2⟩
                · have n42 : ((x.toNat : Int) == 42) = false := byte_ne x 42 h42
                  by_cases hxy : x = y
                  · subst hxy
                    have hfz := hR.frozenAt (k + 1)
                    obtain ⟨b2, _, hce2⟩ := row_cell hR (k + 1) (by omega)
                    go_wp2_with fail
                    go_quiet (fail)
                    go_wp2_with fail
                    go_roundg (pat.size - (k + 1))
                    case measure => have := HKG.out; omega
                    case rel =>
                      refine ⟨k + 1, by omega, by go_num, ?_, ?_⟩
                      · rw [HNS.out, if_pos trivial, if_neg (by simpa using h42), if_pos trivial, ← bls_set]
                        exact ((ownsRow_drewN hR nq).stored (k + 1) (.bool true)).1
                      · exact grown_trans (grown_drewN hgr nq) ((ownsRow_drewN hR nq).stored (k + 1) (.bool true)).2
                  · have nxy := byte_ne x y hxy
                    go_wp2_with fail
                    go_quiet (fail)
                    go_wp2_with fail
                    go_roundg (pat.size - (k + 1))
                    case measure => have := HKG.out; omega
                    case rel =>
                      refine ⟨k + 1, by omega, by go_num, ?_, grown_drewN hgr nq⟩
                      rw [HNS.out, if_pos trivial, if_neg (by simpa using h42), if_neg (by simpa using hxy)]
                      exact ownsRow_drewN hR nq
              | false =>
                go_wp2_with fail
                go_roundg (pat.size - (k + 1))
                case measure => have := HKG.out; omega
                case rel => exact ⟨k + 1, by omega, by go_num, by rw [HNS.out, if_neg (by simp)]; exact hR, hgr⟩
            · have hkk : k = pat.size := by have := HKG.out; omega
              rw [hkk] at hR
              clear hkk
              have hnl := nx_length pat.data.toList C y pat.size
              rw [HPL.out] at hnl
              have hnv := nx_live pat.data.toList C y (s.data.toList.drop (i + 1)) HCL.out
              rw [HPL.out] at hnv
              obtain ⟨X, hX⟩ : ∃ X, nx pat.data.toList C y pat.size = X := ⟨_, rfl⟩
              rw [hX] at hR hnl hnv
              have HNV : Hid _ := hnv
              clear hX hnv
              have c32 := close_any pat w.heap.size g2 X wr (by omega) hnl hR
              have hCz := kept_row hCW hgr hne
              have hbz := below_grown hbW hgr hB2 hbW.size
              go_wp2_with (go_at_call 32; go_fit c32; rintro e w5 ⟨rfl, hN5, hg5⟩; refine Hid.out ?_)
              refine Lib.hid ?_
              have hC5 := kept_row hCz hg5 hne
              have hb5 := below_grown hbz hg5 hB2 hbz.size
              clear hR hCz hbz hg5 c32 hgr
              go_wp2_with fail
              go_roundg (s.size - (i + 1))
              case measure => have := HIG.out; omega
              case rel =>
                refine ⟨i + 1, g2, g1, _, C, by omega, by go_num, rfl, rfl, Ne.symm hne, hB2, hB1, hN5, hC5, ?_, ?_, hb5⟩
                · rw [← HPL.out]
                  exact clo_closed _ _ (by rw [hnl, HPL.out]) _ (Nat.le_refl _)
                · rw [clo_live, HNV.out, ← HDS.out]
                  exact HLV.out
    · have hde := drop_end s i hlt
      obtain ⟨b, hgb, hce⟩ := row_cell hC pat.size (by omega)
      have hfin : gm pat.data.toList s.data.toList = b := by
        rw [Bool.eq_iff_iff, ← HLV.out, hde, live_end _ _ HCL.out, HPL.out, hgb]
        simp
      have HF : Hid _ := hfin
      clear hfin hde hgb
      go_wp2_with fail
      go_ret
      rw [HF.out]
      exact ⟨rfl, hb⟩
end Go.Proofs.Qxb6605381aDoor
