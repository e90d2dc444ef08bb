/-
  THE BODY OF A NUMBER's TEXT, and what both readers make of it: on lists of bytes, no Go in this text.
-/
import Derived.Test.Qxb6606029aDoorTail
import Derived.Test.Qxb6606029aDoorCanon
namespace Go.Proofs.Qxb6606029aDoor

theorem scanT : ∀ (B : List UInt8), ∃ F R, B = F ++ R ∧ digs F = true ∧ (R = [] ∨ ∃ c x, R = c :: x ∧ dig c = false) ∧ scan true B = (F.length, F.length, none)
  | [] => ⟨[], [], rfl, rfl, Or.inl rfl, rfl⟩
  | c :: r => by
    cases hc : dig c with
    | true =>
      obtain ⟨F, R, h1, h2, h3, h4⟩ := scanT r
      refine ⟨c :: F, R, by rw [h1]; rfl, by rw [digs_cons, hc, h2]; rfl, h3, ?_⟩
      rw [scan_dig _ _ _ hc, h4]
      rfl
    | false => exact ⟨[], c :: r, rfl, rfl, Or.inr ⟨c, r, rfl, hc⟩, scan_stop true c r hc (fun h => by cases h.2)⟩

/-- Digits, a point or none, digits, the rest. -/
structure Body (B W Q F R : List UInt8) : Prop where
  eq : B = W ++ (Q ++ (F ++ R))
  dw : digs W = true
  df : digs F = true
  q : (Q = [] ∧ F = []) ∨ Q = [46]
  r : R = [] ∨ ∃ c x, R = c :: x ∧ dig c = false ∧ (Q = [] → c ≠ 46)
  s1 : (scan false B).1 = W.length + (Q.length + F.length)
  s2 : (scan false B).2.1 = W.length + F.length
  s3 : (scan false B).2.2 = if Q = [] then none else some W.length

theorem body_ex : ∀ (B : List UInt8), ∃ W Q F R, Body B W Q F R
  | [] => ⟨[], [], [], [], rfl, rfl, rfl, Or.inl ⟨rfl, rfl⟩, Or.inl rfl, rfl, rfl, rfl⟩
  | c :: r => by
    cases hc : dig c with
    | true =>
      obtain ⟨W, Q, F, R, h1, h2, h3, h4, h5, h6, h7, h8⟩ := body_ex r
      refine ⟨c :: W, Q, F, R, by rw [h1]; rfl, by rw [digs_cons, hc, h2]; rfl, h3, h4, h5, ?_, ?_, ?_⟩
      · rw [scan_dig _ _ _ hc, List.length_cons]
        simp only
        omega
      · rw [scan_dig _ _ _ hc, List.length_cons]
        simp only
        omega
      · rw [scan_dig _ _ _ hc, List.length_cons]
        simp only
        rw [h8]
        split <;> rfl
    | false =>
      by_cases h46 : c = 46
      · subst h46
        obtain ⟨F, R, h1, h2, h3, h4⟩ := scanT r
        refine ⟨[], [46], F, R, by rw [h1]; rfl, rfl, h2, Or.inr rfl, ?_, ?_, ?_, ?_⟩
        · rcases h3 with h3 | ⟨c, x, g1, g2⟩
          · exact Or.inl h3
          · exact Or.inr ⟨c, x, g1, g2, fun e => by cases e⟩
        · rw [scan_point, h4]
          simp only [List.length_nil, List.length_cons]
          omega
        · rw [scan_point, h4]
          simp only [List.length_nil]
          omega
        · rw [scan_point, if_neg (by simp)]
          rfl
      · have hs := scan_stop false c r hc (fun h => h46 h.1)
        refine ⟨[], [], [], c :: r, rfl, rfl, rfl, Or.inl ⟨rfl, rfl⟩, Or.inr ⟨c, r, rfl, hc, fun _ => h46⟩, ?_, ?_, ?_⟩
        · rw [hs]; rfl
        · rw [hs]; rfl
        · rw [hs]; rfl

theorem ends {B W Q F R : List UInt8} (S : List UInt8) (hb : Body B W Q F R) :
    endOf (S ++ B) S.length = S.length + (W.length + (Q.length + F.length)) ∧ cntOf (S ++ B) S.length = W.length + F.length ∧
    pntOf (S ++ B) S.length = (if Q = [] then -1 else ((S.length + W.length : Nat) : Int)) ∧ (S ++ B).drop (endOf (S ++ B) S.length) = R := by
  have hd : (S ++ B).drop S.length = B := List.drop_left
  have h1 : endOf (S ++ B) S.length = S.length + (W.length + (Q.length + F.length)) := by
    unfold endOf
    rw [hd, hb.s1]
  refine ⟨h1, ?_, ?_, ?_⟩
  · unfold cntOf
    rw [hd, hb.s2]
  · unfold pntOf
    rw [hd, hb.s3]
    by_cases hq : Q = []
    · rw [if_pos hq, if_pos hq]
    · rw [if_neg hq, if_neg hq]
  · rw [h1, ← List.drop_drop, hd, hb.eq, ← List.drop_drop, List.drop_left, ← List.drop_drop, List.drop_left, List.drop_left]

/-! ### the point -/
theorem whole_app : ∀ {W : List UInt8} (X : List UInt8), digs W = true → whole (W ++ X) = W ++ whole X ∧ frac (W ++ X) = frac X
  | [], _, _ => ⟨rfl, rfl⟩
  | c :: W, X, h => by
    have hc := digs_ne h (List.mem_cons_self (a := c) (l := W)) 46 (by decide)
    rw [digs_cons, Bool.and_eq_true] at h
    obtain ⟨h1, h2⟩ := whole_app X h.2
    rw [List.cons_append, whole_cons, frac_cons, if_neg hc, if_neg hc, h1, h2]
    exact ⟨rfl, rfl⟩
theorem parts {W Q F : List UInt8} (dw : digs W = true) (q : (Q = [] ∧ F = []) ∨ Q = [46]) : whole (W ++ (Q ++ F)) = W ∧ frac (W ++ (Q ++ F)) = F := by
  obtain ⟨h1, h2⟩ := whole_app (Q ++ F) dw
  rw [h1, h2]
  rcases q with ⟨rfl, rfl⟩ | rfl
  · exact ⟨List.append_nil _, rfl⟩
  · exact ⟨List.append_nil _, rfl⟩
theorem plain_yes {W Q F : List UInt8} (dw : digs W = true) (df : digs F = true) (q : (Q = [] ∧ F = []) ∨ Q = [46]) : plainU (W ++ (Q ++ F)) = decide (W.length + F.length ≠ 0) := by
  obtain ⟨h1, h2⟩ := parts dw q
  unfold plainU
  rw [h1, h2, dw, df, Bool.and_true, Bool.and_true]
  by_cases h : W.length + F.length = 0
  · rw [decide_eq_false (by omega), decide_eq_false (by omega)]
  · rw [decide_eq_true (by omega), decide_eq_true (by omega)]
theorem plain_no {W Q F : List UInt8} {c : UInt8} (x : List UInt8) (dw : digs W = true) (q : (Q = [] ∧ F = []) ∨ Q = [46]) (hc : dig c = false) (h46 : Q = [] → c ≠ 46) : plainU (W ++ (Q ++ (F ++ c :: x))) = false := by
  obtain ⟨h1, h2⟩ := whole_app (Q ++ (F ++ c :: x)) dw
  unfold plainU
  rw [h1, h2]
  rcases q with ⟨rfl, rfl⟩ | rfl
  · have : digs (W ++ whole ([] ++ ([] ++ c :: x))) = false := by
      rw [List.nil_append, List.nil_append, whole_cons, if_neg (h46 rfl), digs_append, digs_cons, hc]
      simp
    rw [this]
    simp
  · have : digs (frac ([46] ++ (F ++ c :: x))) = false := by
      rw [show [46] ++ (F ++ c :: x) = 46 :: (F ++ c :: x) from rfl, frac_cons, if_pos rfl, digs_append, digs_cons, hc]
      simp
    rw [this]
    simp

/-! ### the sign -/
def NS (Z : List UInt8) : Prop := ∀ c, Z.head? = some c → c ≠ 43 ∧ c ≠ 45
theorem unsign_ns : ∀ {Z : List UInt8}, NS Z → unsign Z = Z
  | [], _ => rfl
  | c :: r, h => by
    obtain ⟨h1, h2⟩ := h c rfl
    show (if _ then _ else _) = _
    rw [if_neg (fun e => e.elim h1 h2)]
theorem unsign_at {S Z : List UInt8} (hs : Sign S) (h : S = [] → NS Z) : unsign (S ++ Z) = Z := by
  rcases hs with rfl | rfl | rfl
  · exact unsign_ns (h rfl)
  · rfl
  · rfl
theorem trimS_at {S Z : List UInt8} (hs : Sign S) (h : NS Z) : Lib.trimLeftS (S ++ Z) [43, 45] = Z := by
  have base : Lib.trimLeftS Z [43, 45] = Z := by
    cases Z with
    | nil => rfl
    | cons c l =>
      obtain ⟨h1, h2⟩ := h c rfl
      simp [Lib.trimLeftS, h1, h2]
  rcases hs with rfl | rfl | rfl
  · exact base
  · refine Eq.trans ?_ base; simp [Lib.trimLeftS]
  · refine Eq.trans ?_ base; simp [Lib.trimLeftS]
theorem ns_body {W Q F : List UInt8} (dw : digs W = true) (q : (Q = [] ∧ F = []) ∨ Q = [46]) : NS (W ++ (Q ++ F)) := by
  intro c hc
  cases W with
  | cons d W =>
    have : d = c := Option.some.inj hc
    subst this
    exact ⟨digs_ne dw List.mem_cons_self 43 (by decide), digs_ne dw List.mem_cons_self 45 (by decide)⟩
  | nil =>
    rcases q with ⟨rfl, rfl⟩ | rfl
    · cases hc
    · have : 46 = c := Option.some.inj hc
      subst this
      decide

/-! ### the letter of the exponent -/
theorem noE_body {S W Q F : List UInt8} (hs : Sign S) (dw : digs W = true) (df : digs F = true) (q : (Q = [] ∧ F = []) ∨ Q = [46]) : ∀ c ∈ S ++ (W ++ (Q ++ F)), c ≠ 101 ∧ c ≠ 69 := by
  intro c hc
  rcases List.mem_append.1 hc with h | h
  · rcases hs with rfl | rfl | rfl
    · cases h
    · rw [List.mem_singleton.1 h]; decide
    · rw [List.mem_singleton.1 h]; decide
  · rcases List.mem_append.1 h with h | h
    · exact ⟨digs_ne dw h 101 (by decide), digs_ne dw h 69 (by decide)⟩
    · rcases List.mem_append.1 h with h | h
      · rcases q with ⟨rfl, _⟩ | rfl
        · cases h
        · rw [List.mem_singleton.1 h]; decide
      · exact ⟨digs_ne df h 101 (by decide), digs_ne df h 69 (by decide)⟩
theorem index_none {M : List UInt8} (h : ∀ c ∈ M, c ≠ 101 ∧ c ≠ 69) : Lib.indexAny M [101, 69] = -1 := by
  refine Lib.indexAny_none ?_
  intro j b _ hb
  obtain ⟨h1, h2⟩ := h b (List.mem_of_getElem? hb)
  simp [h1, h2]
theorem index_at {M : List UInt8} (x : List UInt8) {e : UInt8} (h : ∀ c ∈ M, c ≠ 101 ∧ c ≠ 69) (he : e = 101 ∨ e = 69) : Lib.indexAny (M ++ e :: x) [101, 69] = (M.length : Nat) := by
  refine Lib.indexAny_hit (x := e) ?_ ?_ (by rcases he with rfl | rfl <;> rfl)
  · intro j b hj hb
    rw [List.getElem?_append_left hj] at hb
    obtain ⟨h1, h2⟩ := h b (List.mem_of_getElem? hb)
    simp [h1, h2]
  · rw [List.getElem?_append_right (Nat.le_refl _), Nat.sub_self]
    rfl
theorem splitE : ∀ x : List UInt8, (∀ c ∈ x, c ≠ 101 ∧ c ≠ 69) ∨ ∃ a e y, x = a ++ e :: y ∧ (∀ c ∈ a, c ≠ 101 ∧ c ≠ 69) ∧ (e = 101 ∨ e = 69)
  | [] => Or.inl fun _ h => by cases h
  | c :: r => by
    by_cases hc : c = 101 ∨ c = 69
    · exact Or.inr ⟨[], c, r, rfl, (fun _ h => by cases h), hc⟩
    · have h0 : c ≠ 101 ∧ c ≠ 69 := ⟨fun e => hc (Or.inl e), fun e => hc (Or.inr e)⟩
      rcases splitE r with h | ⟨a, e, y, h1, h2, h3⟩
      · exact Or.inl fun d hd => by
          rcases List.mem_cons.1 hd with rfl | hd
          · exact h0
          · exact h d hd
      · exact Or.inr ⟨c :: a, e, y, by rw [h1]; rfl, fun d hd => by
          rcases List.mem_cons.1 hd with rfl | hd
          · exact h0
          · exact h2 d hd, h3⟩

/-! ### the exponent -/
theorem unsign_cut : ∀ x : List UInt8, ∃ sx, Sign sx ∧ x = sx ++ unsign x ∧ decide (x.head? = some 45) = decide (sx = [45])
  | [] => ⟨[], Or.inl rfl, rfl, rfl⟩
  | c :: r => by
    by_cases h1 : c = 43
    · subst h1
      exact ⟨[43], Or.inr (Or.inl rfl), rfl, rfl⟩
    · by_cases h2 : c = 45
      · subst h2
        exact ⟨[45], Or.inr (Or.inr rfl), rfl, rfl⟩
      · refine ⟨[], Or.inl rfl, ?_, ?_⟩
        · show _ = (if _ then _ else _)
          rw [if_neg (fun e => e.elim h1 h2)]
        · rw [decide_eq_false (show ¬ (c :: r).head? = some 45 from fun e => h2 (Option.some.inj e)), decide_eq_false (show ¬ ([] : List UInt8) = [45] from fun e => by cases e)]
theorem exp_some {x : List UInt8} {en : Bool} {em : List UInt8} (h : expOf x = some (en, em)) : ∃ sx ds, x = sx ++ ds ∧ Sign sx ∧ digs ds = true ∧ ds ≠ [] ∧ sval sx ds = sg en (val em) := by
  unfold expOf at h
  by_cases hg : unsign x ≠ [] ∧ digs (unsign x) = true
  · rw [if_pos hg] at h
    obtain ⟨sx, hs, hx, hd⟩ := unsign_cut x
    have h1 := Option.some.inj h
    obtain ⟨rfl, rfl⟩ := Prod.mk.inj h1
    refine ⟨sx, unsign x, hx, hs, hg.2, hg.1, ?_⟩
    rw [val_trim, hd]
    unfold sval sg
    by_cases h45 : sx = [45]
    · rw [if_pos h45, decide_eq_true h45]
      rfl
    · rw [if_neg h45, decide_eq_false h45]
      rfl
  · rw [if_neg hg] at h
    cases h
theorem exp_none {x : List UInt8} (h : expOf x = none) : isPlain x = false ∨ Lib.indexByte x 46 ≠ -1 := by
  unfold expOf at h
  by_cases hg : unsign x ≠ [] ∧ digs (unsign x) = true
  · rw [if_pos hg] at h
    cases h
  · by_cases hi : Lib.indexByte x 46 = -1
    · left
      have hn := Lib.indexByte_none hi
      have hu : ∀ c ∈ unsign x, c ≠ 46 := by
        intro c hc e
        obtain ⟨sx, _, hx, _⟩ := unsign_cut x
        have hm : c ∈ x := by
          rw [hx]
          exact List.mem_append_right _ hc
        obtain ⟨k, hk⟩ := List.mem_iff_getElem?.1 hm
        exact hn k (by rw [hk, e])
      obtain ⟨g1, g2⟩ : whole (unsign x) = unsign x ∧ frac (unsign x) = [] := by
        generalize unsign x = u at hu
        clear hg hn hi h
        induction u with
        | nil => exact ⟨rfl, rfl⟩
        | cons c r ih =>
          obtain ⟨i1, i2⟩ := ih (fun d hd => hu d (List.mem_cons_of_mem _ hd))
          have := hu c List.mem_cons_self
          rw [whole_cons, frac_cons, if_neg this, if_neg this, i1, i2]
          exact ⟨rfl, rfl⟩
      unfold isPlain plainU
      rw [g1, g2]
      cases hp : decide (0 < (unsign x).length + ([] : List UInt8).length) && digs (unsign x) && digs [] with
      | false => rfl
      | true =>
        simp only [Bool.and_eq_true, decide_eq_true_eq, List.length_nil, Nat.add_zero] at hp
        exact absurd ⟨List.length_pos_iff.1 hp.1.1, hp.1.2⟩ hg
    · exact Or.inr hi

/-! ### the digits -/
theorem nz_false {c : UInt8} (h : nz c = false) : c = 46 ∨ c = 48 := by
  by_cases h1 : c = 46
  · exact Or.inl h1
  · by_cases h2 : c = 48
    · exact Or.inr h2
    · simp [nz, h1, h2] at h
theorem nz_true {c : UInt8} (h : nz c = true) : c ≠ 46 ∧ c ≠ 48 := by
  simpa [nz] using h
theorem trimL_pass : ∀ {A : List UInt8} (X : List UInt8), (∀ c ∈ A, nz c = false) → Lib.trimLeftB (A.filter (· != 46) ++ X) 48 = Lib.trimLeftB X 48
  | [], _, _ => rfl
  | c :: A, X, h => by
    have ih := trimL_pass X (fun d hd => h d (List.mem_cons_of_mem _ hd))
    rcases nz_false (h c List.mem_cons_self) with rfl | rfl
    · simpa using ih
    · rw [List.filter_cons_of_pos (by decide), List.cons_append, trim_cons, if_pos rfl]
      exact ih
theorem rep_filter : ∀ {C : List UInt8}, (∀ c ∈ C, nz c = false) → ∀ d ∈ C.filter (· != 46), d = 48
  | C, h => by
    intro d hd
    obtain ⟨h1, h2⟩ := List.mem_filter.1 hd
    rcases nz_false (h d h1) with rfl | rfl
    · simp at h2
    · rfl
theorem dropWhile_all : ∀ {A : List UInt8} (X : List UInt8), (∀ d ∈ A, d = 48) → (A ++ X).dropWhile (· == 48) = X.dropWhile (· == 48)
  | [], _, _ => rfl
  | c :: A, X, h => by
    rw [h c List.mem_cons_self, List.cons_append, List.dropWhile_cons, if_pos (by decide)]
    exact dropWhile_all X (fun d hd => h d (List.mem_cons_of_mem _ hd))
theorem trimR_at {L C : List UInt8} {y : UInt8} (hy : y ≠ 48) (h : ∀ d ∈ C, d = 48) : Lib.trimRightB (L ++ [y] ++ C) 48 = L ++ [y] := by
  unfold Lib.trimRightB
  rw [List.reverse_append, dropWhile_all _ (fun d hd => h d (List.mem_reverse.1 hd)), List.reverse_append]
  have : ([y].reverse ++ L.reverse).dropWhile (· == 48) = [y].reverse ++ L.reverse := by
    simp [hy]
  rw [this]
  simp
theorem sig_law {Z : List UInt8} {i k : Nat} {x y : UInt8} (hik : i ≤ k) (hx : Z[i]? = some x) (hnx : nz x = true) (hy : Z[k]? = some y) (hny : nz y = true)
    (hA : ∀ (j : Nat) c, j < i → Z[j]? = some c → nz c = false) (hC : ∀ (j : Nat) c, k < j → Z[j]? = some c → nz c = false) (sig : List UInt8) (hsig : ((Z.drop i).take (k + 1 - i)).filter (· != 46) = sig) :
    sig ≠ [] ∧ Lib.trimLeftB (Z.filter (· != 46)) 48 = sig ++ (Z.drop (k + 1)).filter (· != 46) ∧ Lib.trimRightB (sig ++ (Z.drop (k + 1)).filter (· != 46)) 48 = sig := by
  have hZ : Z = Z.take i ++ ((Z.drop i).take (k + 1 - i) ++ Z.drop (k + 1)) := by
    rw [show Z.drop (k + 1) = (Z.drop i).drop (k + 1 - i) by rw [List.drop_drop, show i + (k + 1 - i) = k + 1 by omega], List.take_append_drop, List.take_append_drop]
  have hA' : ∀ c ∈ Z.take i, nz c = false := by
    intro c hc
    obtain ⟨j, hj⟩ := List.mem_iff_getElem?.1 hc
    rw [List.getElem?_take] at hj
    by_cases h : j < i
    · rw [if_pos h] at hj
      exact hA j c h hj
    · rw [if_neg h] at hj
      cases hj
  have hC' : ∀ c ∈ Z.drop (k + 1), nz c = false := by
    intro c hc
    obtain ⟨j, hj⟩ := List.mem_iff_getElem?.1 hc
    rw [List.getElem?_drop] at hj
    exact hC (k + 1 + j) c (by omega) hj
  have hf : ∃ r, (Z.drop i).take (k + 1 - i) = x :: r := by
    have h0 : ((Z.drop i).take (k + 1 - i))[0]? = some x := by
      rw [List.getElem?_take, if_pos (by omega), List.getElem?_drop, Nat.add_zero, hx]
    cases h : (Z.drop i).take (k + 1 - i) with
    | nil => rw [h] at h0; cases h0
    | cons c r =>
      rw [h] at h0
      have : c = x := Option.some.inj h0
      exact ⟨r, by rw [this]⟩
  have hl : ∃ L, (Z.drop i).take (k + 1 - i) = L ++ [y] := by
    refine ⟨(Z.drop i).take (k - i), ?_⟩
    rw [show k + 1 - i = (k - i) + 1 by omega, List.take_add_one, List.getElem?_drop, show i + (k - i) = k by omega, hy]
    rfl
  obtain ⟨r, hr⟩ := hf
  obtain ⟨L, hL⟩ := hl
  obtain ⟨x1, x2⟩ := nz_true hnx
  obtain ⟨y1, y2⟩ := nz_true hny
  have e1 : sig = x :: r.filter (· != 46) := by
    rw [← hsig, hr, List.filter_cons_of_pos (by simpa using x1)]
  have e2 : sig = L.filter (· != 46) ++ [y] := by
    rw [← hsig, hL, List.filter_append, List.filter_cons_of_pos (by simpa using y1)]
    rfl
  refine ⟨by rw [e1]; simp, ?_, ?_⟩
  · have : Z.filter (· != 46) = (Z.take i).filter (· != 46) ++ (sig ++ (Z.drop (k + 1)).filter (· != 46)) := by
      conv => lhs; rw [hZ]
      rw [List.filter_append, List.filter_append, hsig]
    rw [this, trimL_pass _ hA', e1, List.cons_append, trim_cons, if_neg x2]
  · rw [e2]
    exact trimR_at y2 (rep_filter hC')
theorem filter_digs {W : List UInt8} (h : digs W = true) : W.filter (· != 46) = W := by
  rw [List.filter_eq_self]
  intro c hc
  have := digs_ne h hc 46 (by decide)
  simpa using this
theorem filter_body {W Q F : List UInt8} (dw : digs W = true) (df : digs F = true) (q : (Q = [] ∧ F = []) ∨ Q = [46]) : (W ++ (Q ++ F)).filter (· != 46) = W ++ F := by
  rw [List.filter_append, List.filter_append, filter_digs dw, filter_digs df]
  rcases q with ⟨rfl, _⟩ | rfl
  · rfl
  · rfl
/-- What stands between the sign and the tail. -/
theorem mid_at (S Z R : List UInt8) (j : Nat) (h : S.length ≤ j) (h2 : j < S.length + Z.length) : (S ++ (Z ++ R))[j]? = Z[j - S.length]? := by
  rw [List.getElem?_append_right h, List.getElem?_append_left (by omega)]
theorem mid_cut (S Z R : List UInt8) {a z : Nat} (h : a ≤ z) (h2 : z < Z.length) : ((S ++ (Z ++ R)).drop (S.length + a)).take (S.length + z + 1 - (S.length + a)) = (Z.drop a).take (z + 1 - a) := by
  rw [← List.drop_drop, List.drop_left, List.drop_append_of_le_length (by omega), List.take_append_of_le_length (by rw [List.length_drop]; omega), show S.length + z + 1 - (S.length + a) = z + 1 - a by omega]
theorem zero_law {S W Q F R : List UInt8} (dw : digs W = true) (df : digs F = true) (q : (Q = [] ∧ F = []) ∨ Q = [46])
    (h : FL (S ++ ((W ++ (Q ++ F)) ++ R)) S.length (S.length + (W ++ (Q ++ F)).length) (-1) (-1)) : Lib.trimLeftB (W ++ F) 48 = [] := by
  rcases h with ⟨_, _, h⟩ | ⟨i, k, h, _⟩
  · have hz : ∀ c ∈ W ++ (Q ++ F), nz c = false := by
      intro c hc
      obtain ⟨j, hj⟩ := List.mem_iff_getElem?.1 hc
      have hjl : j < (W ++ (Q ++ F)).length := (List.getElem?_eq_some_iff.1 hj).1
      refine h (S.length + j) c (by omega) (by omega) ?_
      rw [mid_at _ _ _ _ (by omega) (by omega), Nat.add_sub_cancel_left, hj]
    have := trimL_pass [] hz
    rw [List.append_nil, filter_body dw df q] at this
    exact this
  · omega
def placeOf (E : Nat) (P : Int) (la : Nat) : Int := if (la : Int) < (if 0 ≤ P then P else E) then (if 0 ≤ P then P else E) - 1 - la else -((la : Int) - P)
theorem num_law {S W Q F R : List UInt8} (dw : digs W = true) (df : digs F = true) (q : (Q = [] ∧ F = []) ∨ Q = [46]) {f la : Nat}
    (h : FL (S ++ ((W ++ (Q ++ F)) ++ R)) S.length (S.length + (W ++ (Q ++ F)).length) f la) (sig : List UInt8) (hsig : (((S ++ ((W ++ (Q ++ F)) ++ R)).drop f).take (la + 1 - f)).filter (· != 46) = sig) :
    ∃ dg, sig ≠ [] ∧ Lib.trimLeftB (W ++ F) 48 = dg ∧ Lib.trimRightB dg 48 = sig ∧ (dg.length : Int) - sig.length - F.length = placeOf (S.length + (W.length + (Q.length + F.length))) (if Q = [] then -1 else ((S.length + W.length : Nat) : Int)) la := by
  rcases h with ⟨h, _⟩ | ⟨i, k, h1, h2, h3, h4, h5, ⟨x, h6, h6'⟩, ⟨y, h7, h7'⟩, h8, h9⟩
  · omega
  · obtain rfl : f = i := by omega
    obtain rfl : la = k := by omega
    obtain ⟨a, rfl⟩ : ∃ a, f = S.length + a := ⟨f - S.length, by omega⟩
    obtain ⟨z, rfl⟩ : ∃ z, la = S.length + z := ⟨la - S.length, by omega⟩
    have hza : a ≤ z := by omega
    have hzl : z < (W ++ (Q ++ F)).length := by omega
    rw [mid_at _ _ _ _ (by omega) (by omega), Nat.add_sub_cancel_left] at h6 h7
    have hsig2 : (((W ++ (Q ++ F)).drop a).take (z + 1 - a)).filter (· != 46) = sig := by
      rw [← hsig, mid_cut S _ R hza hzl]
    obtain ⟨s1, s2, s3⟩ := sig_law hza h6 h6' h7 h7' (fun j c hj hc => h8 (S.length + j) c (by omega) (by omega) (by rw [mid_at _ _ _ _ (by omega) (by omega), Nat.add_sub_cancel_left, hc]))
      (fun j c hj hc => by
        have hjl : j < (W ++ (Q ++ F)).length := (List.getElem?_eq_some_iff.1 hc).1
        exact h9 (S.length + j) c (by omega) (by omega) (by rw [mid_at _ _ _ _ (by omega) (by omega), Nat.add_sub_cancel_left, hc])) sig hsig2
    rw [filter_body dw df q] at s2
    refine ⟨_, s1, s2, s3, ?_⟩
    rw [List.length_append]
    have key : ((((W ++ (Q ++ F)).drop (z + 1)).filter (· != 46)).length : Int) - F.length = placeOf (S.length + (W.length + (Q.length + F.length))) (if Q = [] then -1 else ((S.length + W.length : Nat) : Int)) (S.length + z) := by
      unfold placeOf
      rcases q with ⟨rfl, rfl⟩ | rfl
      · rw [if_pos rfl, if_neg (show ¬ (0 : Int) ≤ -1 by decide)]
        simp only [List.append_nil, List.length_nil] at hzl ⊢
        rw [filter_digs (digs_drop dw _), List.length_drop, if_pos (by omega)]
        omega
      · rw [if_neg (show ¬ ([46] : List UInt8) = [] by simp)]
        have hp : (0 : Int) ≤ ((S.length + W.length : Nat) : Int) := by omega
        rw [if_pos hp]
        simp only [List.length_append, List.length_cons, List.length_nil] at hzl
        by_cases hlt : z < W.length
        · rw [if_pos (by omega), List.drop_append_of_le_length (by omega), List.filter_append, filter_digs (digs_drop dw _), List.filter_append, filter_digs df, List.length_append, List.length_append, List.length_drop]
          simp
          omega
        · have hne : z ≠ W.length := by
            intro e
            rw [e, List.getElem?_append_right (Nat.le_refl _), Nat.sub_self] at h7
            have : 46 = y := Option.some.inj h7
            exact (nz_true h7').1 this.symm
          rw [if_neg (by omega), show z + 1 = W.length + (1 + (z - W.length)) by omega, ← List.drop_drop, List.drop_left, ← List.drop_drop, show List.drop 1 ([46] ++ F) = F from rfl, filter_digs (digs_drop df _), List.length_drop]
          omega
    omega

/-! ### modelRead's answer -/
def zeroV : Value := .tuple #[.bool true, .agg #[.bool false, .string ⟨#[]⟩, .string ⟨#[48]⟩]]
/-- modelRead's answer, by cases. -/
def Ans (l : List UInt8) (st : Nat) (neg : Bool) (v : Value) : Prop :=
  (cntOf l st = 0 ∧ v = badV) ∨ (cntOf l st ≠ 0 ∧ tailOf l (endOf l st) = none ∧ v = badV) ∨
  (cntOf l st ≠ 0 ∧ ∃ en em, tailOf l (endOf l st) = some (en, em) ∧
    ((FL l st (endOf l st) (-1) (-1) ∧ v = zeroV) ∨
     (∃ f la : Nat, FL l st (endOf l st) f la ∧ v = .tuple #[.bool true, .agg #[.bool neg, .string ⟨(((l.drop f).take (la + 1 - f)).filter (· != 46)).toArray⟩,
        .string ⟨(Lib.itoa (sg en (val em) + placeOf (endOf l st) (pntOf l st) la)).toArray⟩]])))
theorem ans_bad {l : List UInt8} {st : Nat} {neg : Bool} {v : Value} (h : cntOf l st = 0 ∨ tailOf l (endOf l st) = none) (ha : Ans l st neg v) : v = badV := by
  rcases ha with ⟨_, h2⟩ | ⟨_, _, h2⟩ | ⟨h1, en, em, h2, _⟩
  · exact h2
  · exact h2
  · rcases h with h | h
    · exact absurd h h1
    · rw [h] at h2
      cases h2
def valV (neg : Bool) (sig : List UInt8) (k : Int) : Value := if sig = [] then zeroV else .tuple #[.bool true, .agg #[.bool neg, .string ⟨sig.toArray⟩, .string ⟨(Lib.itoa k).toArray⟩]]
theorem ans_val {S W Q F R : List UInt8} {neg en : Bool} {em : List UInt8} {v : Value} (hb : Body (W ++ (Q ++ (F ++ R))) W Q F R) (hc : W.length + F.length ≠ 0) (ht : tailOf (S ++ (W ++ (Q ++ (F ++ R)))) (S.length + (W.length + (Q.length + F.length))) = some (en, em))
    (dg sig : List UInt8) (hdg : Lib.trimLeftB (W ++ F) 48 = dg) (hsig : Lib.trimRightB dg 48 = sig) (ha : Ans (S ++ (W ++ (Q ++ (F ++ R)))) S.length neg v) : v = valV neg sig (sg en (val em) + ((dg.length : Int) - sig.length - F.length)) := by
  obtain ⟨e1, e2, e3, e4⟩ := ends S hb
  unfold Ans at ha
  rw [e1, e2, e3] at ha
  have hlen : (W ++ (Q ++ F)).length = W.length + (Q.length + F.length) := by rw [List.length_append, List.length_append]
  have hl : S ++ (W ++ (Q ++ (F ++ R))) = S ++ ((W ++ (Q ++ F)) ++ R) := by simp
  unfold valV
  rcases ha with ⟨h1, _⟩ | ⟨_, h1, _⟩ | ⟨_, en', em', h1, h2⟩
  · exact absurd h1 hc
  · rw [ht] at h1
    cases h1
  · rw [ht] at h1
    obtain ⟨rfl, rfl⟩ := Prod.mk.inj (Option.some.inj h1)
    rw [hl, ← hlen] at h2
    rcases h2 with ⟨g1, g2⟩ | ⟨f, la, g1, g2⟩
    · have := zero_law hb.dw hb.df hb.q g1
      rw [hdg] at this
      subst this
      have hs : sig = [] := hsig.symm
      rw [if_pos hs]
      exact g2
    · obtain ⟨dg', n1, n2, n3, n4⟩ := num_law hb.dw hb.df hb.q g1 _ rfl
      rw [hdg] at n2
      subst n2
      rw [hsig] at n3
      rw [← n3] at n1 n4 g2
      rw [if_neg n1, n4, g2, hlen]

/-! ### what the walk of modelRead wants -/
theorem tail_mag {l : List UInt8} {E : Nat} {en : Bool} {em : List UInt8} (h : tailOf l E = some (en, em)) : Mag em ∧ em.length ≤ l.length := by
  unfold tailOf at h
  cases hd : l.drop E with
  | nil =>
    rw [hd] at h
    obtain ⟨_, rfl⟩ := Prod.mk.inj (Option.some.inj h)
    exact ⟨⟨rfl, rfl⟩, Nat.zero_le _⟩
  | cons c x =>
    rw [hd] at h
    simp only at h
    have hl : x.length + 1 ≤ l.length := by
      have := congrArg List.length hd
      rw [List.length_drop, List.length_cons] at this
      omega
    by_cases hc : c = 101 ∨ c = 69
    · rw [if_pos hc] at h
      unfold expOf at h
      by_cases hg : unsign x ≠ [] ∧ digs (unsign x) = true
      · rw [if_pos hg] at h
        obtain ⟨_, rfl⟩ := Prod.mk.inj (Option.some.inj h)
        refine ⟨Mag_trim hg.2, ?_⟩
        obtain ⟨sx, _, hx, _⟩ := unsign_cut x
        have h1 := trim_length (unsign x)
        have h2 := congrArg List.length hx
        rw [List.length_append] at h2
        omega
      · rw [if_neg hg] at h
        cases h
    · rw [if_neg hc] at h
      cases h
theorem pnt_cases (l : List UInt8) (st : Nat) (h : st ≤ l.length) : pntOf l st = -1 ∨ (0 ≤ pntOf l st ∧ pntOf l st < endOf l st) := by
  obtain ⟨W, Q, F, R, hb⟩ := body_ex (l.drop st)
  obtain ⟨e1, _, e3, _⟩ := ends (l.take st) hb
  rw [List.take_append_drop, List.length_take, Nat.min_eq_left h] at e1 e3
  rw [e1, e3]
  rcases hb.q with ⟨rfl, _⟩ | rfl
  · exact Or.inl rfl
  · rw [if_neg (show ¬ ([46] : List UInt8) = [] by simp), List.length_cons, List.length_nil]
    right
    omega
end Go.Proofs.Qxb6606029aDoor
