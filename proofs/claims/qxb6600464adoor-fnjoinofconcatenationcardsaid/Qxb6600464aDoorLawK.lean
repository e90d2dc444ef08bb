/-
  FnJoinOfConcatenation: the walk.
-/
import Derived.Test.Qxb6600464aDoorLawJ
namespace Go.Proofs.Qxb6600464aDoor
open Go.RowKit Sw

theorem behind_append (a b : List (List UInt8)) : behind (a ++ b) = behind a ++ behind b := by simp [behind]
theorem ln_append (xs ys : List ByteArray) (hx : xs ≠ []) (hy : ys ≠ []) : mk (ln xs) ++ ⟨#[32]⟩ ++ mk (ln ys) = mk (ln (xs ++ ys)) := by
  cases xs with
  | nil => exact absurd rfl hx
  | cons x r =>
    cases ys with
    | nil => exact absurd rfl hy
    | cons y t =>
      unfold mk
      rw [show (⟨#[32]⟩ : ByteArray) = ⟨[32].toArray⟩ from rfl, ba_append, ba_append]
      congr 2
      simp only [ln, List.map_cons, List.map_append, List.cons_append, line, behind_append]
      simp [behind]
theorem total_append (a b : List ByteArray) : total (a ++ b) = total a + total b := by simp [total]

set_option maxRecDepth 100000 in
set_option maxHeartbeats 2000000 in
theorem lawK_any (ao bo : Option Addr) (ca cb : Nat) (xs ys : List ByteArray) (w : World) (hx : HS w ao xs) (hy : HS w bo ys) (hn : xs.length ≤ maxLen) (hn2 : ys.length ≤ maxLen) (hnil : ao = none → xs = [] ∧ ca = 0) (hnil2 : bo = none → ys = [] ∧ cb = 0) (m : Int) (hm : w.cell? ⟨0, 0, none⟩ = some (.int .i64 m)) :
    Calls Tryd.prog 5 #[.slice ao xs.length ca, .slice bo ys.length cb] w fun e w' => e = .returned (.bool true) ∧ Below w.heap.size w w' := by
  obtain ⟨i0, hi, hz0, hz1, hz2⟩ := info_parts Tryd.info9
  have c15 := bytes15_any ao bo ca cb xs ys w hx hy hn hn2
  unfold maxLen at hn hn2
  have HN : Hid _ := hnil
  have HN2 : Hid _ := hnil2
  clear hnil hnil2
  go_enter Tryd.func5, Tryd.ntmps5
  go_wp2_with (go_at_call 15; go_fit c15; rintro e w' ⟨b, rfl, hbt, rfl⟩; refine Hid.out ?_)
  refine Lib.hid ?_
  clear c15
  cases b with
  | false =>
    clear hbt
    go_wp2_with fail
    go_ret
    exact ⟨rfl, Below.refl _ _⟩
  | true =>
    obtain ⟨h1, h2, h1', h2'⟩ := hbt rfl
    clear hbt
    by_cases h3 : xs.length ≤ 65536
    · have d3 : decide ((65536 : Int) < (xs.length : Int)) = false := by simp; omega
      by_cases h4 : ys.length ≤ 65536
      · have c11 := count11_any ao ca xs _ hx h1 h2
        go_wp2_with fail
        go_fit c11
        rintro e w' ⟨c, hc, rfl, rfl⟩
        clear c11
        have c11 := count11_any bo cb ys _ hy h1' h2'
        go_wp2_with fail
        go_fit c11
        rintro e w' ⟨c', hc', rfl, rfl⟩
        clear c11 d3
        by_cases hcc : c + c' ≤ 1048576
        · have c12 := clone12_any ao ca xs _ hx h1 HN.out
          go_wp2_with fail
          go_fit c12
          rintro e w1 ⟨v1, rfl, ho1, hb1⟩
          clear c12
          have c12 := clone12_any bo cb ys w1 (hy.below hb1) h1' HN2.out
          go_wp2_with fail
          go_fit c12
          rintro e w2 ⟨v2, rfl, ho2, hb2⟩
          clear c12
          have ho1' := ownsRow_below ho1 hb2
          clear ho1
          obtain ⟨ao1, ca1, hv1, -, hs1⟩ := HS_of_own ho1'
          obtain ⟨ao2, ca2, hv2, -, hs2⟩ := HS_of_own ho2
          subst hv1
          subst hv2
          have hm2 := cell0_below (cell0_below hm hb1) hb2
          have hbw := hb1.trans (hb2.mono hb1.size)
          clear hb1 hb2 hx hy hm
          go_wp2_with (at_make; refine wpList_make_own _ rfl _ _ 23 rfl w2.heap.size 9 i0 (.string ⟨#[]⟩) 1 Tryd.underlying23 hi hz0 hz1 _ _ _ (xs.length + ys.length) rfl rfl (by omega) (by rw [hz2]; omega) (by unfold maxLen; omega) (Nat.le_refl _) ?_)
          intro w3 ho3 hg3
          have hb3 : Below w2.heap.size w2 w3 := (Below.refl _ _).grown hg3 (Nat.le_refl _) (fun k hk => by cases hk)
          have ho3' : w3.ownsRow w2.heap.size 9 1 (.slice (some ⟨w2.heap.size, 0, none⟩) 0 (xs.length + ys.length)) 0 (scs []) := ho3
          have hA3 := ownsRow_below ho1' hb3
          clear hg3 ho3
          go_wp2_with (at_builtin; refine wpList_appAll (P := Tryd.prog) Tryd.underlying23 Tryd.info9 _ rfl (.tmp 35) (.tmp 36) rfl w2.heap.size _ _ _ 0 xs.length [] xs rfl ho3' rfl hA3 hb3.size (by omega) ?_)
          intro v4 w4 ho4 hg4
          have hb4 : Below w2.heap.size w2 w4 := hb3.grown hg4 hb3.size (ownBlock_lt ho3')
          have hB4 := ownsRow_below ho2 hb4
          clear hg4 hA3 ho3' hb3
          go_wp2_with (at_builtin; refine wpList_appAll (P := Tryd.prog) Tryd.underlying23 Tryd.info9 _ rfl (.tmp 38) (.tmp 39) rfl w2.heap.size _ _ _ xs.length ys.length xs ys rfl ho4 rfl hB4 hb4.size (by omega) ?_)
          intro v5 w5 ho5 hg5
          have hb5 : Below w2.heap.size w2 w5 := hb4.grown hg5 hb4.size (ownBlock_lt ho4)
          clear hg5 ho4 hB4 hb4
          obtain ⟨ao5, ca5, hv5, -, hs5⟩ := HS_of_own ho5
          rw [List.length_append] at hv5
          rw [hv5]
          clear ho5 hv5
          have c13 := join13_any ao5 ca5 (xs ++ ys) w5 hs5 (by simp; omega) (by rw [total_append]; omega) (fun x hx => by rcases List.mem_append.1 hx with h | h <;> have := mem_total h <;> omega) m (cell0_below hm2 hb5)
          rw [List.length_append] at c13
          go_wp2_with fail
          go_fit c13
          rintro e w6 ⟨rfl, hb6⟩
          clear c13
          have hb26 : Below w2.heap.size w2 w6 := hb5.trans (hb6.mono hb5.size)
          by_cases hx0 : xs = []
          · subst hx0
            have c13 := join13_any ao2 ca2 ys w6 (hs2.below hb26) (by omega) (by omega) (fun x hx => by have := mem_total hx; omega) m (cell0_below hm2 hb26)
            go_wp2_with fail
            go_fit c13
            rintro e w7 ⟨rfl, hb7⟩
            go_wp2_with fail
            go_ret
            exact ⟨by simp, (hbw.trans (hb26.mono hbw.size)).trans (hb7.mono (Nat.le_trans hbw.size hb26.size))⟩
          · have hxl : 0 < xs.length := List.length_pos_iff.2 hx0
            have hxb : ((xs.length : Int) == 0) = false := beq_eq_false_iff_ne.2 (by omega)
            by_cases hy0 : ys = []
            · subst hy0
              have c13 := join13_any ao1 ca1 xs w6 (hs1.below hb26) (by omega) (by omega) (fun x hx => by have := mem_total hx; omega) m (cell0_below hm2 hb26)
              go_wp2_with fail
              go_fit c13
              rintro e w7 ⟨rfl, hb7⟩
              go_wp2_with fail
              go_ret
              exact ⟨by simp, (hbw.trans (hb26.mono hbw.size)).trans (hb7.mono (Nat.le_trans hbw.size hb26.size))⟩
            · have hyl : 0 < ys.length := List.length_pos_iff.2 hy0
              have hyb : ((ys.length : Int) == 0) = false := beq_eq_false_iff_ne.2 (by omega)
              have c13 := join13_any ao1 ca1 xs w6 (hs1.below hb26) (by omega) (by omega) (fun x hx => by have := mem_total hx; omega) m (cell0_below hm2 hb26)
              go_wp2_with fail
              go_fit c13
              rintro e w7 ⟨rfl, hb7⟩
              clear c13
              have hb27 : Below w2.heap.size w2 w7 := hb26.trans (hb7.mono hb26.size)
              have c13 := join13_any ao2 ca2 ys w7 (hs2.below hb27) (by omega) (by omega) (fun x hx => by have := mem_total hx; omega) m (cell0_below hm2 hb27)
              have hl1 := ln_len xs
              have hl2 := ln_len ys
              have hs1 : (mk (ln xs)).size ≤ 100000000 := by rw [mk_size]; omega
              have hs2 : (mk (ln ys)).size ≤ 100000000 := by rw [mk_size]; omega
              have hcat := ln_append xs ys hx0 hy0
              go_wp2_with fail
              go_fit c13
              rintro e w8 ⟨rfl, hb8⟩
              go_wp2_with fail
              go_ret
              exact ⟨by simp, (hbw.trans (hb27.mono hbw.size)).trans (hb8.mono (Nat.le_trans hbw.size hb27.size))⟩
        · go_wp2_with fail
          go_ret
          exact ⟨rfl, Below.refl _ _⟩
      · go_wp2_with fail
        go_ret
        exact ⟨rfl, Below.refl _ _⟩
    · go_wp2_with fail
      go_ret
      exact ⟨rfl, Below.refl _ _⟩
end Go.Proofs.Qxb6600464aDoor
