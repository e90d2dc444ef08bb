/-
  decimal.Read AND modelRead's ANSWER: the same at every text.
-/
import Derived.Test.Qxb6606029aDoorBod
import Derived.Test.Qxb6606029aDoorRead
import Derived.Test.Qxb6606029aDoorReadZ
import Derived.Test.Qxb6606029aDoorReadG
import Derived.Test.Qxb6606029aDoorIdx
import Derived.Test.Qxb6606029aDoorLawS
namespace Go.Proofs.Qxb6606029aDoor
open Go.RowKit Go.Joins

theorem mant {w0 : World} {m0 : Int} (hm : w0.cell? ⟨0, 0, none⟩ = some (.int .i64 m0)) {S W Q F : List UInt8} (hS : Sign S) (dw : digs W = true) (q : (Q = [] ∧ F = []) ∨ Q = [46]) (hl : (W ++ (Q ++ F)).length ≤ 1048576) :
    ∃ b, Ct w0 29 #[.string ⟨(S ++ (W ++ (Q ++ F))).toArray⟩, .string ⟨#[43, 45]⟩] (.string ⟨(W ++ (Q ++ F)).toArray⟩) ∧
      Ct w0 30 #[.string ⟨(W ++ (Q ++ F)).toArray⟩, .string ⟨#[46]⟩] (.tuple #[.string ⟨W.toArray⟩, .string ⟨F.toArray⟩, .bool b]) ∧
      Ct w0 29 #[.string ⟨(W ++ F).toArray⟩, .string ⟨#[48]⟩] (.string ⟨(Lib.trimLeftB (W ++ F) 48).toArray⟩) ∧
      Ct w0 31 #[.string ⟨(Lib.trimLeftB (W ++ F) 48).toArray⟩, .string ⟨#[48]⟩] (.string ⟨(Lib.trimRightB (Lib.trimLeftB (W ++ F) 48) 48).toArray⟩) := by
  obtain ⟨b, cK⟩ := ct_cut hm ⟨(W ++ (Q ++ F)).toArray⟩ (by rw [Lib.size_mk]; omega)
  refine ⟨b, ?_, ?_, ct_trimL w0 _, ct_trimR w0 _ ?_⟩
  · have cT := ct_signs w0 ⟨(S ++ (W ++ (Q ++ F))).toArray⟩
    rw [show Lib.trimLeftS (⟨(S ++ (W ++ (Q ++ F))).toArray⟩ : ByteArray).data.toList [43, 45] = W ++ (Q ++ F) from trimS_at hS (ns_body dw q)] at cT
    exact cT
  · rw [show whole (⟨(W ++ (Q ++ F)).toArray⟩ : ByteArray).data.toList = W from (parts dw q).1, show frac (⟨(W ++ (Q ++ F)).toArray⟩ : ByteArray).data.toList = F from (parts dw q).2] at cK
    exact cK
  · rw [Lib.size_mk]
    have h1 := trim_length (W ++ F)
    rw [List.length_append] at h1
    simp only [List.length_append] at hl
    omega

theorem first_sign {S Z : List UInt8} (hS : Sign S) (hZ : NS Z) (h : 0 < (⟨(S ++ Z).toArray⟩ : ByteArray).size) : (((⟨(S ++ Z).toArray⟩ : ByteArray)[0].toNat : Int) == 45) = decide (S = [45]) := by
  rcases hS with rfl | rfl | rfl
  · cases Z with
    | nil => exact absurd h (by decide)
    | cons c r => exact byte_ne c 45 (hZ c rfl).2
  · rfl
  · rfl
theorem trimR_len (l : List UInt8) : (Lib.trimRightB l 48).length ≤ l.length := by
  unfold Lib.trimRightB
  rw [List.length_reverse]
  have := (List.dropWhile_sublist (· == (48 : UInt8)) (l := l.reverse)).length_le
  rw [List.length_reverse] at this
  exact this
theorem cat_mk (a b : List UInt8) : (⟨a.toArray⟩ : ByteArray) ++ ⟨b.toArray⟩ = ⟨(a ++ b).toArray⟩ := by
  apply ByteArray.ext
  simp

theorem read_any (L : List UInt8) (w : World) (m0 : Int) (hm : w.cell? ⟨0, 0, none⟩ = some (.int .i64 m0)) (ht : Tab w) (hs : L.length ≤ 1048576) (S B : List UInt8) (hl : L = S ++ B) (hS : Sign S) (hB : S = [] → NS B) :
    ∃ ok A D X, (∀ v, Ans L S.length (decide (S = [45])) v → v = .tuple #[.bool ok, .agg #[.bool A, .string D, .string X]]) ∧ Calls Tryd.prog 15 #[.string ⟨L.toArray⟩] w fun e w' => e = .returned (.tuple #[.agg #[.bool A, .string D, .string X], .bool ok]) ∧ Below w.heap.size w w' := by
  have hm0 := cell_on (begun_first w) hm
  have htb : Tab (begun w) := tab_below ht (begun_first w)
  obtain ⟨W, Q, F, R, hb⟩ := body_ex B
  have hBe := hb.eq
  subst hBe
  obtain ⟨e1, e2, e3, e4⟩ := ends S hb
  rw [← hl] at e1 e2 e3 e4
  have dw := hb.dw
  have df := hb.df
  have q := hb.q
  have hns := ns_body (F := F) dw q
  have hnoE := noE_body hS dw df q
  have hLl : L.length = S.length + (W.length + (Q.length + (F.length + R.length))) := by
    rw [hl]
    simp only [List.length_append]
  have hsz : (⟨L.toArray⟩ : ByteArray).size = L.length := Lib.size_mk L
  have hZl : (W ++ (Q ++ F)).length = W.length + (Q.length + F.length) := by simp only [List.length_append]
  have cI0 := ct_below (w0 := begun w) fun wk _ => index_any ⟨L.toArray⟩ wk (by rw [hsz]; omega)
  have cI : Ct (begun w) 26 #[.string ⟨L.toArray⟩, .string ⟨#[101, 69]⟩] (.int .i64 (Lib.indexAny L [101, 69])) := cI0
  clear cI0
  have hplain : ∀ l : List UInt8, l.length ≤ 1048576 → Ct (begun w) 27 #[.string ⟨l.toArray⟩] (.bool (isPlain l)) := fun l h => ct_plain hm0 ⟨l.toArray⟩ (by rw [Lib.size_mk]; omega)
  have hpm : isPlain (S ++ (W ++ (Q ++ F))) = decide (W.length + F.length ≠ 0) := by
    unfold isPlain
    rw [unsign_at hS (fun _ => hns), plain_yes dw df q]
  have hml : (S ++ (W ++ (Q ++ F))).length = S.length + (W.length + (Q.length + F.length)) := by simp only [List.length_append]
  have hmz : (⟨(S ++ (W ++ (Q ++ F))).toArray⟩ : ByteArray).size = S.length + (W.length + (Q.length + F.length)) := by rw [Lib.size_mk, hml]
  obtain ⟨b, cT, cK, cL, cR⟩ := mant hm0 hS dw q (by omega)
  obtain ⟨dg, hdg⟩ : ∃ dg, Lib.trimLeftB (W ++ F) 48 = dg := ⟨_, rfl⟩
  obtain ⟨sig, hsig⟩ : ∃ sig, Lib.trimRightB dg 48 = sig := ⟨_, rfl⟩
  have hdl : dg.length ≤ W.length + F.length := by
    rw [← hdg]
    have := trim_length (W ++ F)
    rw [List.length_append] at this
    exact this
  have hsl : sig.length ≤ dg.length := by rw [← hsig]; exact trimR_len dg
  rw [hdg] at cL cR
  rw [hsig] at cR
  rcases hb.r with hR | ⟨c, x, hR, hdc, h46⟩
  · -- no tail
    subst hR
    have hL : L = S ++ (W ++ (Q ++ F)) := by rw [hl, List.append_nil]
    have hnE : Lib.indexAny L [101, 69] = -1 := by rw [hL]; exact index_none hnoE
    rw [hnE] at cI
    have cP := hplain L hs
    have htl : tailOf L (endOf L S.length) = some (false, []) := by
      unfold tailOf
      rw [e4]
    by_cases hc : W.length + F.length = 0
    · rw [show isPlain L = false by rw [hL, hpm]; simp [hc]] at cP
      exact ⟨_, _, _, _, (fun v hv => by rw [ans_bad (Or.inl (by rw [e2, hc])) hv]; rfl), read_bad_nf _ w cI cP⟩
    · rw [show isPlain L = true by rw [hL, hpm]; exact decide_eq_true hc] at cP
      have hval : ∀ v, Ans L S.length (decide (S = [45])) v → v = valV (decide (S = [45])) sig (sg false (val []) + ((dg.length : Int) - sig.length - F.length)) := by
        intro v hv
        rw [hl] at hv
        refine ans_val hb hc ?_ dg sig hdg hsig hv
        rw [← hl, ← e1]
        exact htl
      rw [← hL] at cT
      by_cases hz : sig = []
      · subst hz
        exact ⟨_, _, _, _, (fun v hv => by rw [hval v hv]; rfl), read_zero _ _ _ _ _ _ b w cI cP cT cK (cat_mk W F) (by rw [Lib.size_mk]; omega) (by rw [Lib.size_mk]; omega) cL cR⟩
      · have hsp : 0 < sig.length := List.length_pos_iff.2 hz
        have cQ := ct_plus htb [] [] (Or.inl rfl) rfl (by decide) ((dg.length : Int) - sig.length - F.length) (by omega) (by omega)
        have h0 : 0 < (⟨L.toArray⟩ : ByteArray).size := by rw [hsz]; omega
        have hng : (((⟨L.toArray⟩ : ByteArray)[0].toNat : Int) == 45) = decide (S = [45]) := by
          have hg : ∀ (M : List UInt8) (h : 0 < (⟨M.toArray⟩ : ByteArray).size), M = S ++ (W ++ (Q ++ F)) → (((⟨M.toArray⟩ : ByteArray)[0].toNat : Int) == 45) = decide (S = [45]) := by
            intro M h hM
            subst hM
            exact first_sign hS hns h
          exact hg L h0 hL
        refine ⟨_, _, _, _, fun v hv => ?_, read_num_nf _ _ _ _ _ _ _ _ _ b w (by rw [hsz]; omega) h0 _ hng cI cP cT cK (cat_mk W F) (by rw [Lib.size_mk]; omega) (by rw [Lib.size_mk]; omega) cL cR (by rw [Lib.size_mk]; omega) (by rw [Lib.size_mk]; omega) (by rw [Lib.size_mk]; omega) (by rw [Lib.size_mk, Lib.size_mk, Lib.size_mk]) cQ⟩
        rw [hval v hv]
        unfold valV
        rw [if_neg hz]
        rfl
  · by_cases hce : c = 101 ∨ c = 69
    · -- an exponent
      have hL : L = (S ++ (W ++ (Q ++ F))) ++ c :: x := by rw [hl, hR]; simp
      have hnE : Lib.indexAny L [101, 69] = ((S ++ (W ++ (Q ++ F))).length : Nat) := by rw [hL]; exact index_at x hnoE hce
      rw [hnE] at cI
      have hRl : R.length = x.length + 1 := by rw [hR, List.length_cons]
      have cP := hplain (S ++ (W ++ (Q ++ F))) (by omega)
      have cX := hplain x (by omega)
      have hi : (S ++ (W ++ (Q ++ F))).length < (⟨L.toArray⟩ : ByteArray).size := by rw [hsz]; omega
      have hem : (⟨L.toArray⟩ : ByteArray).extract 0 (S ++ (W ++ (Q ++ F))).length = ⟨(S ++ (W ++ (Q ++ F))).toArray⟩ := by
        rw [Lib.extract_upto]
        show (⟨(L.take _).toArray⟩ : ByteArray) = _
        rw [hL, List.take_left]
      have hex : (⟨L.toArray⟩ : ByteArray).extract ((S ++ (W ++ (Q ++ F))).length + 1) (⟨L.toArray⟩ : ByteArray).size = ⟨x.toArray⟩ := by
        rw [Lib.extract_from]
        show (⟨(L.drop _).toArray⟩ : ByteArray) = _
        rw [hL, ← List.drop_drop, List.drop_left]
        rfl
      have htl : tailOf L (endOf L S.length) = expOf x := by
        unfold tailOf
        rw [e4, hR]
        simp only
        rw [if_pos hce]
      by_cases hc : W.length + F.length = 0
      · rw [show isPlain (S ++ (W ++ (Q ++ F))) = false by rw [hpm]; simp [hc]] at cP
        exact ⟨_, _, _, _, (fun v hv => by rw [ans_bad (Or.inl (by rw [e2, hc])) hv]; rfl), read_bad_m _ _ _ _ w (by rw [hsz]; omega) hi hem hex cI cP⟩
      · rw [show isPlain (S ++ (W ++ (Q ++ F))) = true by rw [hpm]; exact decide_eq_true hc] at cP
        have cC0 := ct_point (begun w) ⟨x.toArray⟩
        have cC : Ct (begun w) 28 #[.string ⟨x.toArray⟩, .string ⟨#[46]⟩] (.bool (decide (0 ≤ Lib.indexByte x 46))) := cC0
        clear cC0
        cases hxp : expOf x with
        | none =>
          rw [hxp] at htl
          have hbv : ∀ v, Ans L S.length (decide (S = [45])) v → v = .tuple #[.bool false, .agg #[.bool false, .string ⟨#[]⟩, .string ⟨#[]⟩]] := fun v hv => ans_bad (Or.inr htl) hv
          cases hpx : isPlain x with
          | false =>
            rw [hpx] at cX
            exact ⟨_, _, _, _, hbv, read_bad_x _ _ _ _ w (by rw [hsz]; omega) hi hem hex cI cP cX⟩
          | true =>
            rw [hpx] at cX
            have hix : Lib.indexByte x 46 ≠ -1 := by
              rcases exp_none hxp with h | h
              · rw [hpx] at h; cases h
              · exact h
            have := Lib.indexByte_ge x 46
            rw [decide_eq_true (by omega)] at cC
            exact ⟨_, _, _, _, hbv, read_bad_c _ _ _ _ w (by rw [hsz]; omega) hi hem hex cI cP cX cC⟩
        | some p =>
          obtain ⟨en, em⟩ := p
          rw [hxp] at htl
          obtain ⟨sx, ds, hx, hsx, hds, hdne, hsv⟩ := exp_some hxp
          rw [show isPlain x = true by rw [hx]; exact plain_signed hsx hds hdne] at cX
          rw [show Lib.indexByte x 46 = -1 by rw [hx]; exact noPoint (fun c hc => signed_ne hsx hds hc 46 (Or.inr rfl))] at cC
          have hval : ∀ v, Ans L S.length (decide (S = [45])) v → v = valV (decide (S = [45])) sig (sg en (val em) + ((dg.length : Int) - sig.length - F.length)) := by
            intro v hv
            rw [hl] at hv
            refine ans_val hb hc ?_ dg sig hdg hsig hv
            rw [← hl, ← e1]
            exact htl
          by_cases hz : sig = []
          · subst hz
            exact ⟨_, _, _, _, (fun v hv => by rw [hval v hv]; rfl), read_zero_f _ _ _ _ _ _ _ _ _ b w (by rw [hsz]; omega) hi hem hex cI cP cX cC cT cK (cat_mk W F) (by rw [Lib.size_mk]; omega) (by rw [Lib.size_mk]; omega) cL cR⟩
          · have hsp : 0 < sig.length := List.length_pos_iff.2 hz
            have hxl : x.length = sx.length + ds.length := by rw [hx, List.length_append]
            have cQ := ct_plus htb sx ds hsx hds (by omega) ((dg.length : Int) - sig.length - F.length) (by omega) (by omega)
            rw [← hx] at cQ
            refine ⟨_, _, _, _, fun v hv => ?_, read_num _ _ _ _ _ _ _ _ _ _ _ _ b w (by rw [hsz]; omega) hi hem hex (by rw [hmz]; omega) _ (first_sign hS hns _) (by rw [hmz]; omega) cI cP cX cC cT cK (cat_mk W F) (by rw [Lib.size_mk]; omega) (by rw [Lib.size_mk]; omega) cL cR (by rw [Lib.size_mk]; omega) (by rw [Lib.size_mk]; omega) (by rw [Lib.size_mk]; omega) (by rw [Lib.size_mk, Lib.size_mk, Lib.size_mk]) cQ⟩
            rw [hval v hv]
            unfold valV
            rw [if_neg hz, hsv]
    · -- neither
      have htl : tailOf L (endOf L S.length) = none := by
        unfold tailOf
        rw [e4, hR]
        simp only
        rw [if_neg hce]
      have hbv : ∀ v, Ans L S.length (decide (S = [45])) v → v = .tuple #[.bool false, .agg #[.bool false, .string ⟨#[]⟩, .string ⟨#[]⟩]] := fun v hv => ans_bad (Or.inr htl) hv
      have hcE : c ≠ 101 ∧ c ≠ 69 := ⟨fun e => hce (Or.inl e), fun e => hce (Or.inr e)⟩
      have hbad : ∀ a, isPlain (S ++ (W ++ (Q ++ (F ++ c :: a)))) = false := by
        intro a
        unfold isPlain
        rw [unsign_at hS, plain_no a dw q hdc h46]
        intro hSn d hd
        refine hB hSn d ?_
        rw [← hd, hR]
        cases W with
        | cons _ _ => rfl
        | nil =>
          cases Q with
          | cons _ _ => rfl
          | nil =>
            cases F with
            | cons _ _ => rfl
            | nil => rfl
      rcases splitE x with hx | ⟨a, e, y, hx, ha, he⟩
      · have hL : L = (S ++ (W ++ (Q ++ F))) ++ c :: x := by rw [hl, hR]; simp
        have hnE : Lib.indexAny L [101, 69] = -1 := by
          rw [hL]
          refine index_none fun d hd => ?_
          rcases List.mem_append.1 hd with h | h
          · exact hnoE d h
          · rcases List.mem_cons.1 h with rfl | h
            · exact hcE
            · exact hx d h
        rw [hnE] at cI
        have cP := hplain L hs
        rw [show isPlain L = false by rw [hl, hR]; exact hbad x] at cP
        exact ⟨_, _, _, _, hbv, read_bad_nf _ w cI cP⟩
      · have hL : L = (S ++ (W ++ (Q ++ (F ++ c :: a)))) ++ e :: y := by rw [hl, hR, hx]; simp
        have hno : ∀ d ∈ S ++ (W ++ (Q ++ (F ++ c :: a))), d ≠ 101 ∧ d ≠ 69 := by
          intro d hd
          rw [show S ++ (W ++ (Q ++ (F ++ c :: a))) = (S ++ (W ++ (Q ++ F))) ++ c :: a by simp] at hd
          rcases List.mem_append.1 hd with h | h
          · exact hnoE d h
          · rcases List.mem_cons.1 h with rfl | h
            · exact hcE
            · exact ha d h
        have hnE : Lib.indexAny L [101, 69] = ((S ++ (W ++ (Q ++ (F ++ c :: a)))).length : Nat) := by rw [hL]; exact index_at y hno he
        rw [hnE] at cI
        have hlt : (S ++ (W ++ (Q ++ (F ++ c :: a)))).length < L.length := by
          conv => rhs; rw [hL]
          simp only [List.length_append, List.length_cons]
          omega
        have cP := hplain (S ++ (W ++ (Q ++ (F ++ c :: a)))) (by omega)
        rw [hbad a] at cP
        refine ⟨_, _, _, _, hbv, read_bad_m _ _ _ _ w (by rw [hsz]; omega) (by rw [hsz]; exact hlt) ?_ rfl cI cP⟩
        rw [Lib.extract_upto]
        show (⟨(L.take _).toArray⟩ : ByteArray) = _
        rw [hL, List.take_left]
end Go.Proofs.Qxb6606029aDoor
