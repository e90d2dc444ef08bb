/-
  Read at a canonical number's text; the law FnReadInvertsRender.
-/
import Derived.Test.Qxb6606029aDoorRead
import Derived.Test.Qxb6606029aDoorReadZ
import Derived.Test.Qxb6606029aDoorCanon
import Derived.Test.Qxb6606029aDoorLawR
namespace Go.Proofs.Qxb6606029aDoor
open Go.RowKit Go.Joins

theorem ct_below {w0 : World} {f : Nat} {args : Array Value} {v : Value} (h : ∀ wk, Below w0.heap.size w0 wk → Calls Tryd.prog f args wk fun e w' => e = .returned v ∧ Below wk.heap.size wk w') : Ct w0 f args v :=
  fun wk G => (h wk G).mono fun _ _ ⟨he, hb⟩ => ⟨he, below_next G hb⟩
theorem ct_same {w0 : World} {f : Nat} {args : Array Value} {v : Value} (h : ∀ wk, Calls Tryd.prog f args wk fun e w' => e = .returned v ∧ w' = wk) : Ct w0 f args v :=
  fun wk G => (h wk).mono fun _ _ ⟨he, hb⟩ => ⟨he, hb ▸ G⟩
theorem ct_drew {w0 : World} {f : Nat} {args : Array Value} {v : Value} (h : ∀ wk, Below w0.heap.size w0 wk → Calls Tryd.prog f args wk fun e w' => e = .returned v ∧ ∃ n, w' = wk.drewN n) : Ct w0 f args v :=
  fun wk G => (h wk G).mono fun _ _ ⟨he, n, hb⟩ => ⟨he, hb ▸ below_drewK G n⟩
theorem cell_on {w w' : World} (hb : Below w.heap.size w w') {b o : Nat} {v : Value} (h : w.cell? ⟨b, o, none⟩ = some v) : w'.cell? ⟨b, o, none⟩ = some v :=
  (hb.cell (World.block_lt_of_cell? w _ h)).trans h

theorem ct_plain {w0 : World} {m0 : Int} (hm : w0.cell? ⟨0, 0, none⟩ = some (.int .i64 m0)) (s : ByteArray) (hs : s.size ≤ 100000000) : Ct w0 27 #[.string s] (.bool (isPlain s.data.toList)) :=
  ct_drew fun wk G => isPlain_any s wk m0 hs (cell_on G hm)
theorem ct_cut {w0 : World} {m0 : Int} (hm : w0.cell? ⟨0, 0, none⟩ = some (.int .i64 m0)) (s : ByteArray) (hs : s.size ≤ 100000000) : ∃ b, Ct w0 30 #[.string s, .string ⟨#[46]⟩] (.tuple #[.string ⟨(whole s.data.toList).toArray⟩, .string ⟨(frac s.data.toList).toArray⟩, .bool b]) := by
  refine ⟨(Lib.cut s.data.toList [46]).2.2, ct_drew fun wk G => ?_⟩
  have h := Tryd.strings_Cut s ⟨#[46]⟩ m0 wk (by omega) (cell_on G hm)
  obtain ⟨h1, h2⟩ := cut_eq s.data.toList
  rw [show (⟨#[46]⟩ : ByteArray).data.toList = [46] from rfl, h1, h2] at h
  exact h
theorem ct_trimL (w0 : World) (s : ByteArray) : Ct w0 29 #[.string s, .string ⟨#[48]⟩] (.string ⟨(Lib.trimLeftB s.data.toList 48).toArray⟩) :=
  ct_same fun wk => Tryd.strings_TrimLeft_one s 48 (by decide) wk
theorem ct_trimR (w0 : World) (s : ByteArray) (hs : s.size ≤ 200000000) : Ct w0 31 #[.string s, .string ⟨#[48]⟩] (.string ⟨(Lib.trimRightB s.data.toList 48).toArray⟩) :=
  ct_same fun wk => Tryd.strings_TrimRight_one s 48 (by decide) wk (by omega)
theorem ct_signs (w0 : World) (s : ByteArray) : Ct w0 29 #[.string s, .string ⟨#[43, 45]⟩] (.string ⟨(Lib.trimLeftS s.data.toList [43, 45]).toArray⟩) :=
  ct_below fun wk _ => Tryd.strings_TrimLeft_signs s wk
theorem ct_point (w0 : World) (s : ByteArray) : Ct w0 28 #[.string s, .string ⟨#[46]⟩] (.bool (decide (0 ≤ Lib.indexByte s.data.toList 46))) :=
  ct_same fun wk => Tryd.strings_Contains_one s 46 wk
theorem ct_index (w0 : World) (s : ByteArray) (hs : s.size ≤ 100000000) (has : ∀ (j : Nat) b, s.data.toList[j]? = some b → b.toNat < 128) : Ct w0 26 #[.string s, .string ⟨#[101, 69]⟩] (.int .i64 (Lib.indexAny s.data.toList [101, 69])) :=
  ct_below fun wk _ => Tryd.strings_IndexAny_laid s ⟨#[101, 69]⟩ wk (by omega) (by decide) has (ascii_of_all (by decide))
theorem ct_plus {w0 : World} (ht : Tab w0) (sg ds : List UInt8) (hsg : Sign sg) (hd : digs ds = true) (hl : ds.length ≤ 100000000) (n : Int) (hn0 : -4194304 ≤ n) (hn1 : n ≤ 4194304) :
    Ct w0 20 #[.string ⟨(sg ++ ds).toArray⟩, .int .i64 n] (.string ⟨(Lib.itoa (sval sg ds + n)).toArray⟩) :=
  ct_below fun wk G => plus_any sg ds hsg hd hl n hn0 hn1 wk (tab_below ht G)
theorem mk_self (s : ByteArray) : (⟨s.data.toList.toArray⟩ : ByteArray) = s := by simp
theorem begun_first (w : World) : Below w.heap.size w (begun w) := (Below.refl _ w).alloc (Nat.le_refl _) _

theorem read_canon_zero (w : World) (m0 : Int) (hm : w.cell? ⟨0, 0, none⟩ = some (.int .i64 m0)) :
    Calls Tryd.prog 15 #[.string ⟨#[48]⟩] w fun e w' => e = .returned (.tuple #[.agg #[.bool false, .string ⟨#[]⟩, .string ⟨#[48]⟩], .bool true]) ∧ Below w.heap.size w w' := by
  have hm0 := cell_on (begun_first w) hm
  obtain ⟨b, cK⟩ := ct_cut hm0 ⟨#[48]⟩ (by decide)
  have cI := ct_index (begun w) ⟨#[48]⟩ (by decide) (ascii_of_all (by decide))
  have cP := ct_plain hm0 ⟨#[48]⟩ (by decide)
  have cT := ct_signs (begun w) ⟨#[48]⟩
  have cL := ct_trimL (begun w) ⟨#[48]⟩
  have cR := ct_trimR (begun w) ⟨#[]⟩ (by decide)
  exact read_zero ⟨#[48]⟩ ⟨#[48]⟩ ⟨#[48]⟩ ⟨#[]⟩ ⟨#[48]⟩ ⟨#[]⟩ b w cI cP cT cK (by decide) (by decide) (by decide) cL cR

theorem sgn_sign (neg : Bool) : Sign (if neg then [45] else []) := by
  cases neg
  · exact Or.inl rfl
  · exact Or.inr (Or.inr rfl)
theorem text_list (neg : Bool) (d x : ByteArray) (h0 : 0 < d.size) : (textOf neg d x).data.toList = (if neg then [45] else []) ++ d.data.toList ++ 101 :: x.data.toList := by
  unfold textOf
  rw [if_pos h0]
  cases neg <;> simp
theorem read_canon (neg : Bool) (d x : ByteArray) (w : World) (m0 : Int) (hm : w.cell? ⟨0, 0, none⟩ = some (.int .i64 m0)) (ht : Tab w) (hd : d.size ≤ 524288) (hx : x.size ≤ 524288) (h0 : 0 < d.size)
    (hdg : digs d.data.toList = true) (hfst : d.data.toList.head? ≠ some 48) (hlst : d.data.toList.getLast? ≠ some 48) (hE : CanE x.data.toList) :
    Calls Tryd.prog 15 #[.string (textOf neg d x)] w fun e w' => e = .returned (.tuple #[.agg #[.bool neg, .string d, .string x], .bool true]) ∧ Below w.heap.size w w' := by
  have hm0 := cell_on (begun_first w) hm
  have htb : Tab (begun w) := tab_below ht (begun_first w)
  obtain ⟨sg, ds, hes, hsg, hds, hdne, hit⟩ := canE_sign hE
  have hsn := sgn_sign neg
  have htl := text_list neg d x h0
  have hdne2 : d.data.toList ≠ [] := fun e => by rw [Lib.size_eq, e] at h0; exact absurd h0 (by decide)
  have hxl : x.data.toList.length ≤ 524288 := by rw [← Lib.size_eq]; exact hx
  have hdl : d.data.toList.length ≤ 524288 := by rw [← Lib.size_eq]; exact hd
  have hdsz : d.data.toList.length = d.size := (Lib.size_eq d).symm
  have hnl : (if neg then [(45 : UInt8)] else []).length ≤ 1 := by cases neg <;> decide
  obtain ⟨S, hS⟩ : ∃ S : List UInt8, (if neg then [45] else []) = S := ⟨_, rfl⟩
  rw [hS] at hsn htl hnl
  have hts : (textOf neg d x).size = S.length + d.data.toList.length + 1 + x.data.toList.length := by
    rw [Lib.size_eq, htl]
    simp only [List.length_append, List.length_cons]
    omega
  have hml : (⟨(S ++ d.data.toList).toArray⟩ : ByteArray).size = S.length + d.data.toList.length := by rw [Lib.size_mk, List.length_append]
  have hasc : ∀ (j : Nat) b, (textOf neg d x).data.toList[j]? = some b → b.toNat < 128 := by
    intro j b hb
    have hmem := List.mem_of_getElem? hb
    rw [htl, hes] at hmem
    rcases List.mem_append.1 hmem with h | h
    · rcases List.mem_append.1 h with h | h
      · rcases hsn with rfl | rfl | rfl
        · exact absurd h (by simp)
        · rw [List.mem_singleton.1 h]; decide
        · rw [List.mem_singleton.1 h]; decide
      · have := digs_mem hdg h
        omega
    · rcases List.mem_cons.1 h with rfl | h
      · decide
      · rcases List.mem_append.1 h with h | h
        · rcases hsg with rfl | rfl | rfl
          · exact absurd h (by simp)
          · rw [List.mem_singleton.1 h]; decide
          · rw [List.mem_singleton.1 h]; decide
        · have := digs_mem hds h
          omega
  have cI := ct_index (begun w) (textOf neg d x) (by omega) hasc
  rw [htl, index_signed hsn hdg] at cI
  have cP := ct_plain hm0 ⟨(S ++ d.data.toList).toArray⟩ (by omega)
  rw [show isPlain (⟨(S ++ d.data.toList).toArray⟩ : ByteArray).data.toList = true from plain_signed hsn hdg hdne2] at cP
  have cX := ct_plain hm0 x (by omega)
  rw [show isPlain x.data.toList = true by rw [hes]; exact plain_signed hsg hds hdne] at cX
  have cC := ct_point (begun w) x
  rw [show Lib.indexByte x.data.toList 46 = -1 from noPoint (fun c hc => signed_ne hsg hds (by rw [← hes]; exact hc) 46 (Or.inr rfl))] at cC
  have cT := ct_signs (begun w) ⟨(S ++ d.data.toList).toArray⟩
  rw [show Lib.trimLeftS (⟨(S ++ d.data.toList).toArray⟩ : ByteArray).data.toList [43, 45] = d.data.toList from trimS_signed hsn hdg, mk_self] at cT
  obtain ⟨b, cK⟩ := ct_cut hm0 d (by omega)
  rw [(whole_digs hdg).1, (whole_digs hdg).2, mk_self] at cK
  have cL := ct_trimL (begun w) d
  rw [trimL_same hfst, mk_self] at cL
  have cR := ct_trimR (begun w) d (by omega)
  rw [trimR_same hlst, mk_self] at cR
  have cQ := ct_plus htb sg ds hsg hds (by
    have : x.data.toList.length = sg.length + ds.length := by rw [hes, List.length_append]
    omega) 0 (by decide) (by decide)
  rw [hit, ← hes, mk_self] at cQ
  have hne : ((⟨(S ++ d.data.toList).toArray⟩ : ByteArray)[0]'(by rw [hml]; omega)) = (S ++ d.data.toList)[0]'(by rw [List.length_append]; omega) := rfl
  refine read_num (textOf neg d x) (S ++ d.data.toList).length ⟨(S ++ d.data.toList).toArray⟩ x d d ⟨#[]⟩ d d d x 0 b w (by omega) (by rw [hts, List.length_append]; omega) ?_ ?_ (by rw [hml]; omega) neg ?_ (by omega) cI cP cX cC cT cK ?_ (by omega) (by decide) cL cR h0 (by omega) (by omega) (by show (d.size : Int) - d.size - 0 = 0; omega) cQ
  · rw [Lib.extract_upto, htl, List.take_left]
  · rw [Lib.extract_from, htl]
    rw [show (S ++ d.data.toList).length + 1 = (S ++ d.data.toList ++ [101]).length by simp; omega]
    rw [show S ++ d.data.toList ++ 101 :: x.data.toList = S ++ d.data.toList ++ [101] ++ x.data.toList by simp]
    rw [List.drop_left, mk_self]
  · rw [hne]
    cases neg with
    | true =>
      have hS' : S = [45] := hS.symm
      subst hS'
      rfl
    | false =>
      have hS' : S = [] := hS.symm
      subst hS'
      have hh := data_cons d h0
      have hmem : d[0] ∈ d.data.toList := by rw [hh]; exact List.mem_cons_self
      exact byte_ne d[0] 45 (digs_ne hdg hmem 45 (by decide))
  · apply ByteArray.ext
    simp

theorem lawR_any (neg : Bool) (d x : ByteArray) (w : World) (m0 : Int) (hd : d.size ≤ maxLen) (hx : x.size ≤ maxLen) (hm : w.cell? ⟨0, 0, none⟩ = some (.int .i64 m0)) (ht : Tab w) :
    Calls Tryd.prog 6 #[.bool neg, .string d, .string x] w fun e w' => e = .returned (.bool true) ∧ Below w.heap.size w w' := by
  refine lawR_core neg d x w hd hx fun w' hb h1 h2 hc => ?_
  have hm' := cell_on hb hm
  have ht' := tab_below ht hb
  rcases hc with ⟨he, hn, hxe⟩ | ⟨hne, hdg, hf, hl, hE⟩
  · have hde : d = ⟨#[]⟩ := ByteArray.ext (Array.toList_inj.1 he)
    have hxx : x = ⟨#[48]⟩ := ByteArray.ext (Array.toList_inj.1 hxe)
    subst hn hde hxx
    exact (read_canon_zero w' m0 hm').mono fun _ _ ⟨h, g⟩ => ⟨h, below_next hb g⟩
  · have h0 : 0 < d.size := by
      rw [Lib.size_eq]
      exact List.length_pos_iff.2 hne
    exact (read_canon neg d x w' m0 hm' ht' h1 h2 h0 hdg hf hl hE).mono fun _ _ ⟨h, g⟩ => ⟨h, below_next hb g⟩
end Go.Proofs.Qxb6606029aDoor
