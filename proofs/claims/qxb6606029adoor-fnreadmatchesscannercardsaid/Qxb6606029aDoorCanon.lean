/-
  WHAT READ MEETS AT A CANONICAL NUMBER's TEXT: on lists of bytes, no Go.
-/
import Derived.Test.Qxb6606029aDoorSum
namespace Go.Proofs.Qxb6606029aDoor

theorem digs_ne {l : List UInt8} (h : digs l = true) {c : UInt8} (hc : c ∈ l) (d : UInt8) (hd : d.toNat < 48 ∨ 57 < d.toNat) : c ≠ d := by
  have := digs_mem h hc
  intro e
  rw [e] at this
  omega
theorem whole_digs : ∀ {l : List UInt8}, digs l = true → whole l = l ∧ frac l = []
  | [], _ => ⟨rfl, rfl⟩
  | c :: l, h => by
    have hc := digs_ne h (List.mem_cons_self (a := c) (l := l)) 46 (by decide)
    rw [digs_cons, Bool.and_eq_true] at h
    obtain ⟨h1, h2⟩ := whole_digs h.2
    rw [whole_cons, frac_cons, if_neg hc, if_neg hc, h1, h2]
    exact ⟨rfl, rfl⟩
theorem unsign_digs {l : List UInt8} (h : digs l = true) : unsign l = l := by
  cases l with
  | nil => rfl
  | cons c l =>
    have h1 := digs_ne h (List.mem_cons_self (a := c) (l := l)) 43 (by decide)
    have h2 := digs_ne h (List.mem_cons_self (a := c) (l := l)) 45 (by decide)
    show (if _ then _ else _) = _
    rw [if_neg (fun e => e.elim h1 h2)]
theorem unsign_signed {sg ds : List UInt8} (hs : Sign sg) (hd : digs ds = true) : unsign (sg ++ ds) = ds := by
  rcases hs with rfl | rfl | rfl
  · exact unsign_digs hd
  · rfl
  · rfl
theorem plain_signed {sg ds : List UInt8} (hs : Sign sg) (hd : digs ds = true) (hne : ds ≠ []) : isPlain (sg ++ ds) = true := by
  unfold isPlain
  rw [unsign_signed hs hd]
  unfold plainU
  obtain ⟨h1, h2⟩ := whole_digs hd
  rw [h1, h2, hd]
  have : 0 < ds.length := List.length_pos_iff.2 hne
  simp
  exact ⟨this, rfl⟩
theorem trimS_signed {sg ds : List UInt8} (hs : Sign sg) (hd : digs ds = true) : Lib.trimLeftS (sg ++ ds) [43, 45] = ds := by
  have base : Lib.trimLeftS ds [43, 45] = ds := by
    cases ds with
    | nil => rfl
    | cons c l =>
      have h1 := digs_ne hd (List.mem_cons_self (a := c) (l := l)) 43 (by decide)
      have h2 := digs_ne hd (List.mem_cons_self (a := c) (l := l)) 45 (by decide)
      simp [Lib.trimLeftS, h1, h2]
  rcases hs with rfl | rfl | rfl
  · exact base
  · refine Eq.trans ?_ base; simp [Lib.trimLeftS]
  · refine Eq.trans ?_ base; simp [Lib.trimLeftS]
theorem noPoint : ∀ {l : List UInt8}, (∀ c ∈ l, c ≠ 46) → Lib.indexByte l 46 = -1
  | [], _ => rfl
  | c :: l, h => by
    have hc : c ≠ 46 := h c (List.mem_cons_self)
    have ih := noPoint (l := l) (fun d hd => h d (List.mem_cons_of_mem _ hd))
    simp [Lib.indexByte, hc, ih]
theorem signed_ne {sg ds : List UInt8} (hs : Sign sg) (hd : digs ds = true) {c : UInt8} (hc : c ∈ sg ++ ds) (d : UInt8) (h : 57 < d.toNat ∨ d.toNat = 46) : c ≠ d := by
  rcases List.mem_append.1 hc with hc | hc
  · rcases hs with rfl | rfl | rfl
    · exact absurd hc (by simp)
    · rw [List.mem_singleton.1 hc]; intro e; rw [← e] at h; exact absurd h (by decide)
    · rw [List.mem_singleton.1 hc]; intro e; rw [← e] at h; exact absurd h (by decide)
  · exact digs_ne hd hc d (by omega)
theorem index_signed {sg ds : List UInt8} (hs : Sign sg) (hd : digs ds = true) (x : List UInt8) : Lib.indexAny (sg ++ ds ++ 101 :: x) [101, 69] = ((sg ++ ds).length : Nat) := by
  refine Lib.indexAny_hit (x := 101) ?_ ?_ rfl
  · intro j b hj hb
    rw [List.getElem?_append_left hj] at hb
    have hm := List.mem_of_getElem? hb
    have h1 := signed_ne hs hd hm 101 (by decide)
    have h2 := signed_ne hs hd hm 69 (by decide)
    simp [h1, h2]
  · rw [List.getElem?_append_right (Nat.le_refl _), Nat.sub_self]
    rfl
theorem trimR_same {l : List UInt8} (h : l.getLast? ≠ some 48) : Lib.trimRightB l 48 = l := by
  unfold Lib.trimRightB
  have : l.reverse.dropWhile (· == 48) = l.reverse := by
    cases hl : l.reverse with
    | nil => rfl
    | cons c r =>
      have hc : c ≠ 48 := by
        intro e
        apply h
        rw [← List.head?_reverse, hl, e]
        rfl
      simp [hc]
  rw [this, List.reverse_reverse]
theorem trimL_same {l : List UInt8} (h : l.head? ≠ some 48) : Lib.trimLeftB l 48 = l := by
  cases l with
  | nil => rfl
  | cons c r => exact trim_same (Or.inr ⟨c, r, rfl, fun e => h (by rw [e]; rfl)⟩)
/-- A canonical exponent is the numeral of its number. -/
theorem canE_sign {e : List UInt8} (h : CanE e) : ∃ sg ds, e = sg ++ ds ∧ Sign sg ∧ digs ds = true ∧ ds ≠ [] ∧ Lib.itoa (sval sg ds + 0) = e := by
  rcases h with rfl | ⟨sg, c, r, rfl, hs, hc, hd⟩
  · refine ⟨[], [48], rfl, Or.inl rfl, by decide, by simp, ?_⟩
    have : sval [] [48] + 0 = ((0 : Nat) : Int) := by decide
    rw [this, Lib.itoa_nonneg, decDigits_small (by decide)]
    rfl
  · have hv := decDigits_val r.length c r rfl hd hc
    have hge := val_ge hd hc
    have hp : 1 ≤ 10 ^ r.length := Nat.one_le_pow _ _ (by decide)
    rcases hs with rfl | rfl
    · refine ⟨[], c :: r, rfl, Or.inl rfl, hd, by simp, ?_⟩
      have : sval [] (c :: r) + 0 = ((val (c :: r) : Nat) : Int) := by
        unfold sval
        rw [if_neg (by simp)]
        omega
      rw [this, Lib.itoa_nonneg, hv]
      rfl
    · refine ⟨[45], c :: r, rfl, Or.inr (Or.inr rfl), hd, by simp, ?_⟩
      have : sval [45] (c :: r) + 0 = -((val (c :: r) : Nat) : Int) := by
        unfold sval
        rw [if_pos rfl]
        omega
      rw [this, Lib.itoa_neg _ (by omega), hv]
      rfl
end Go.Proofs.Qxb6606029aDoor
