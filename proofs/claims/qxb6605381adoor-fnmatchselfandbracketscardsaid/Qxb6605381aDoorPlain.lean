/-
  THE WILDCARD LANGUAGE, on lists of bytes: no Go in this text. 'gm pat s': s matches pat, in which each 42 stands for any run of bytes.
-/
import Derived.Lib.TrimByte
namespace Go.Proofs.Qxb6605381aDoor.Gl

def gmStar (f : List UInt8 → Bool) : List UInt8 → Bool
  | [] => f []
  | c :: s => f (c :: s) || gmStar f s
def gm : List UInt8 → List UInt8 → Bool
  | [], s => s.isEmpty
  | c :: p, s => if c = 42 then gmStar (gm p) s else match s with
    | [] => false
    | d :: t => d == c && gm p t

theorem gm_nil (s : List UInt8) : gm [] s = s.isEmpty := rfl
theorem gm_star (p s : List UInt8) : gm (42 :: p) s = gmStar (gm p) s := rfl
theorem gm_star_cons (p : List UInt8) (c : UInt8) (s : List UInt8) : gm (42 :: p) (c :: s) = (gm p (c :: s) || gm (42 :: p) s) := rfl
theorem gm_star_nil (p : List UInt8) : gm (42 :: p) [] = gm p [] := rfl
theorem gm_lit_cons (c : UInt8) (hc : c ≠ 42) (p : List UInt8) (d : UInt8) (t : List UInt8) : gm (c :: p) (d :: t) = (d == c && gm p t) := by
  show (if c = 42 then _ else _) = _
  rw [if_neg hc]
theorem gm_lit_nil (c : UInt8) (hc : c ≠ 42) (p : List UInt8) : gm (c :: p) [] = false := by
  show (if c = 42 then _ else _) = _
  rw [if_neg hc]

/-- A star may take nothing. -/
theorem star_none {p s : List UInt8} (h : gm p s = true) : gm (42 :: p) s = true := by
  cases s with
  | nil => exact h
  | cons c s => rw [gm_star_cons, h]; rfl
/-- A star takes whatever stands ahead. -/
theorem star_absorb {p t : List UInt8} (h : gm (42 :: p) t = true) : ∀ u : List UInt8, gm (42 :: p) (u ++ t) = true
  | [] => h
  | c :: u => by
    rw [List.cons_append, gm_star_cons, star_absorb h u]
    simp
/-- A star: some tail matches what stands behind it. -/
theorem star_iff (p : List UInt8) : ∀ s : List UInt8, gm (42 :: p) s = true ↔ ∃ u t, s = u ++ t ∧ gm p t = true
  | [] => ⟨fun h => ⟨[], [], rfl, h⟩, fun ⟨u, t, e, h⟩ => by
      have : t = [] := (List.append_eq_nil_iff.1 e.symm).2
      subst this
      exact h⟩
  | c :: s => by
    rw [gm_star_cons, Bool.or_eq_true]
    constructor
    · rintro (h | h)
      · exact ⟨[], _, rfl, h⟩
      · obtain ⟨u, t, e, h'⟩ := (star_iff p s).1 h
        exact ⟨c :: u, t, by rw [e]; rfl, h'⟩
    · rintro ⟨u, t, e, h⟩
      cases u with
      | nil => left; rw [List.nil_append] at e; rw [e]; exact h
      | cons d u =>
        right
        injection e with e1 e2
        exact (star_iff p s).2 ⟨u, t, e2, h⟩

theorem gm_lit_same : ∀ (L : List UInt8), (∀ c ∈ L, c ≠ 42) → ∀ Q T, gm (L ++ Q) (L ++ T) = gm Q T
  | [], _, _, _ => rfl
  | c :: L, h, Q, T => by
    rw [List.cons_append, List.cons_append, gm_lit_cons c (h c List.mem_cons_self), gm_lit_same L (fun x hx => h x (List.mem_cons_of_mem _ hx)) Q T]
    simp
theorem gm_lit_split : ∀ (L : List UInt8), (∀ c ∈ L, c ≠ 42) → ∀ Q U, gm (L ++ Q) U = true → ∃ V, U = L ++ V ∧ gm Q V = true
  | [], _, _, U, h => ⟨U, rfl, h⟩
  | c :: L, hL, Q, U, h => by
    cases U with
    | nil => rw [List.cons_append, gm_lit_nil c (hL c List.mem_cons_self)] at h; cases h
    | cons d U =>
      rw [List.cons_append, gm_lit_cons c (hL c List.mem_cons_self), Bool.and_eq_true] at h
      obtain ⟨V, e, h'⟩ := gm_lit_split L (fun x hx => hL x (List.mem_cons_of_mem _ hx)) Q U h.2
      have e2 : d = c := by simpa using h.1
      exact ⟨V, by rw [e, e2]; rfl, h'⟩

/-- A later star: the earlier one need take no more. -/
theorem star_hit (L Q T : List UInt8) (hL : ∀ c ∈ L, c ≠ 42) : gm (42 :: (L ++ 42 :: Q)) (L ++ T) = gm (42 :: Q) T := by
  rw [Bool.eq_iff_iff]
  constructor
  · intro h
    obtain ⟨u, t, e, h1⟩ := (star_iff _ _).1 h
    obtain ⟨V, e2, h2⟩ := gm_lit_split L hL _ _ h1
    -- V is a tail of T
    have : ∃ x, T = x ++ V := by
      rw [e2] at e
      have hlen : (u ++ (L ++ V)).length = (L ++ T).length := by rw [e]
      have h3 : T = (L ++ T).drop L.length := by simp
      have h4 : (u ++ (L ++ V)).drop L.length = (((u ++ L) ++ V)).drop L.length := by simp
      rw [e, h4] at h3
      rw [List.drop_append_of_le_length (by simp)] at h3
      exact ⟨_, h3⟩
    obtain ⟨x, rfl⟩ := this
    exact star_absorb h2 x
  · intro h
    refine star_none ?_
    rw [gm_lit_same L hL]
    exact h

/-- A mismatch: the star takes one byte more. -/
theorem star_miss (L P T : List UInt8) (c : UInt8) (U : List UInt8) (hL : ∀ c ∈ L, c ≠ 42) (h : gm P T = false) (e : L ++ T = c :: U) : gm (42 :: (L ++ P)) (L ++ T) = gm (42 :: (L ++ P)) U := by
  rw [e, gm_star_cons, ← e, gm_lit_same L hL, h]
  simp

/-- The text is through. -/
theorem star_end (L P : List UInt8) (hL : ∀ c ∈ L, c ≠ 42) : gm (42 :: (L ++ P)) (L ++ []) = gm P [] := by
  rw [Bool.eq_iff_iff]
  constructor
  · intro h
    obtain ⟨u, t, e, h1⟩ := (star_iff _ _).1 h
    obtain ⟨V, e2, h2⟩ := gm_lit_split L hL _ _ h1
    have hlen : (L ++ ([] : List UInt8)).length = (u ++ t).length := by rw [e]
    rw [e2] at hlen
    simp at hlen
    have : V = [] := List.length_eq_zero_iff.1 (by omega)
    rw [this] at h2
    exact h2
  · intro h
    refine star_none ?_
    rw [gm_lit_same L hL]
    exact h

/-- At the text's end only stars may be left. -/
theorem gm_end : ∀ P : List UInt8, gm P [] = P.all (· == 42)
  | [] => rfl
  | c :: P => by
    by_cases h : c = 42
    · subst h
      rw [gm_star_nil, gm_end P]
      simp
    · rw [gm_lit_nil c h]
      simp [h]

/-- Every text matches itself. -/
theorem gm_self : ∀ s : List UInt8, gm s s = true
  | [] => rfl
  | c :: s => by
    by_cases h : c = 42
    · subst h
      rw [gm_star_cons, star_none (gm_self s)]
      simp
    · rw [gm_lit_cons c h, gm_self s]
      simp

theorem all_of_dropWhile (p : UInt8 → Bool) : ∀ l : List UInt8, (∀ x ∈ l.dropWhile p, p x = true) → ∀ x ∈ l, p x = true
  | [], _ => fun _ h => by cases h
  | c :: l, h => by
    rw [List.dropWhile_cons] at h
    cases hc : p c with
    | true =>
      rw [hc, if_pos rfl] at h
      intro x hx
      rcases List.mem_cons.1 hx with rfl | hx
      · exact hc
      · exact all_of_dropWhile p l h x hx
    | false =>
      rw [hc, if_neg (by simp)] at h
      have := h c List.mem_cons_self
      rw [hc] at this
      cases this
theorem dropWhile_nil (p : UInt8 → Bool) : ∀ l : List UInt8, l.dropWhile p = [] ↔ ∀ x ∈ l, p x = true
  | [] => by simp
  | c :: l => by
    rw [List.dropWhile_cons]
    cases hc : p c with
    | true => rw [if_pos rfl, dropWhile_nil p l]; simp [hc]
    | false => rw [if_neg (by simp)]; simp [hc]
theorem trim_empty (l : List UInt8) : (Lib.trimB l 42 = []) ↔ l.all (· == 42) = true := by
  unfold Lib.trimB Lib.trimLeftB Lib.trimRightB
  rw [dropWhile_nil, List.all_eq_true]
  constructor
  · intro h
    have := all_of_dropWhile (· == 42) l.reverse (fun x hx => h x (List.mem_reverse.2 hx))
    intro x hx
    exact this x (List.mem_reverse.2 hx)
  · intro h
    have e : l.reverse.dropWhile (· == 42) = [] := (dropWhile_nil _ _).2 fun x hx => h x (List.mem_reverse.1 hx)
    rw [e]
    simp

/-! ### The automaton over the pattern's places -/

/-- Some place that is reached matches the rest of the text. -/
def live (pat : List UInt8) (set : List Bool) (t : List UInt8) : Prop := ∃ j, set[j]? = some true ∧ j ≤ pat.length ∧ gm (pat.drop j) t = true
/-- Stars are passed, up to place k. -/
def closedTo (pat : List UInt8) (set : List Bool) (k : Nat) : Prop := ∀ j, j < k → set[j]? = some true → pat[j]? = some 42 → set[j + 1]? = some true

/-- closeStars, k rounds. -/
def clo (pat : List UInt8) (set : List Bool) : Nat → List Bool
  | 0 => set
  | k + 1 => if (clo pat set k)[k]? = some true ∧ pat[k]? = some 42 then (clo pat set k).set (k + 1) true else clo pat set k
theorem clo_length (pat : List UInt8) (set : List Bool) : ∀ k, (clo pat set k).length = set.length
  | 0 => rfl
  | k + 1 => by
    unfold clo
    split
    · rw [List.length_set, clo_length pat set k]
    · exact clo_length pat set k
theorem clo_closed (pat : List UInt8) (set : List Bool) (hs : set.length = pat.length + 1) : ∀ k, k ≤ pat.length → closedTo pat (clo pat set k) k
  | 0, _ => fun j hj => by omega
  | k + 1, hk => by
    have ih := clo_closed pat set hs k (by omega)
    intro j hj h1 h2
    unfold clo at h1 ⊢
    by_cases hc : (clo pat set k)[k]? = some true ∧ pat[k]? = some 42
    · rw [if_pos hc] at h1 ⊢
      by_cases hjk : j = k
      · subst hjk
        rw [List.getElem?_set_self (by rw [clo_length]; omega)]
      · rw [List.getElem?_set_ne (by omega)] at h1
        have := ih j (by omega) h1 h2
        rw [List.getElem?_set_ne (by omega)]
        exact this
    · rw [if_neg hc] at h1 ⊢
      by_cases hjk : j = k
      · subst hjk
        exact absurd ⟨h1, h2⟩ hc
      · exact ih j (by omega) h1 h2
theorem drop_of_get {pat : List UInt8} {j : Nat} {c : UInt8} (h : pat[j]? = some c) : pat.drop j = c :: pat.drop (j + 1) := by
  obtain ⟨hj, e⟩ := List.getElem?_eq_some_iff.1 h
  rw [List.drop_eq_getElem_cons hj, e]
theorem clo_live (pat : List UInt8) (set : List Bool) (t : List UInt8) : ∀ k, live pat (clo pat set k) t ↔ live pat set t
  | 0 => Iff.rfl
  | k + 1 => by
    refine Iff.trans ?_ (clo_live pat set t k)
    rw [show clo pat set (k + 1) = if (clo pat set k)[k]? = some true ∧ pat[k]? = some 42 then (clo pat set k).set (k + 1) true else clo pat set k from rfl]
    by_cases hc : (clo pat set k)[k]? = some true ∧ pat[k]? = some 42
    · rw [if_pos hc]
      constructor
      · rintro ⟨j, h1, h2, h3⟩
        by_cases hj : j = k + 1
        · subst hj
          refine ⟨k, hc.1, by omega, ?_⟩
          rw [drop_of_get hc.2]
          exact star_none h3
        · rw [List.getElem?_set_ne (by omega)] at h1
          exact ⟨j, h1, h2, h3⟩
      · rintro ⟨j, h1, h2, h3⟩
        refine ⟨j, ?_, h2, h3⟩
        by_cases hj : j = k + 1
        · subst hj
          have := (List.getElem?_eq_some_iff.1 h1).1
          rw [List.getElem?_set_self this]
        · rw [List.getElem?_set_ne (by omega)]
          exact h1
    · rw [if_neg hc]

/-- One byte of the text, k rounds over the places. -/
def nx (pat : List UInt8) (cur : List Bool) (c : UInt8) : Nat → List Bool
  | 0 => List.replicate (pat.length + 1) false
  | k + 1 => if cur[k]? = some true then (if pat[k]? = some 42 then (nx pat cur c k).set k true else if pat[k]? = some c then (nx pat cur c k).set (k + 1) true else nx pat cur c k) else nx pat cur c k
theorem nx_length (pat : List UInt8) (cur : List Bool) (c : UInt8) : ∀ k, (nx pat cur c k).length = pat.length + 1
  | 0 => by simp [nx]
  | k + 1 => by
    unfold nx
    split
    · split
      · rw [List.length_set, nx_length pat cur c k]
      · split
        · rw [List.length_set, nx_length pat cur c k]
        · exact nx_length pat cur c k
    · exact nx_length pat cur c k
/-- What is reached by a byte: a star stays, another byte steps on. -/
theorem nx_iff (pat : List UInt8) (cur : List Bool) (c : UInt8) : ∀ k, k ≤ pat.length → ∀ j, (nx pat cur c k)[j]? = some true ↔
    (j < k ∧ cur[j]? = some true ∧ pat[j]? = some 42) ∨ (∃ i, j = i + 1 ∧ i < k ∧ cur[i]? = some true ∧ pat[i]? = some c ∧ c ≠ 42)
  | 0, _, j => by
    constructor
    · intro h
      have := List.getElem?_eq_some_iff.1 h
      obtain ⟨h1, h2⟩ := this
      simp [nx] at h2
    · rintro (⟨h, _⟩ | ⟨i, _, h, _⟩) <;> omega
  | k + 1, hk, j => by
    have ih := nx_iff pat cur c k (by omega)
    have hl := nx_length pat cur c k
    have set_iff : ∀ (l : List Bool) (p q : Nat), p < l.length → ((l.set p true)[q]? = some true ↔ q = p ∨ l[q]? = some true) := by
      intro l p q hp
      by_cases h : q = p
      · subst h; rw [List.getElem?_set_self hp]; simp
      · rw [List.getElem?_set_ne (by omega)]; simp [h]
    unfold nx
    by_cases h1 : cur[k]? = some true
    · rw [if_pos h1]
      by_cases h2 : pat[k]? = some 42
      · rw [if_pos h2, set_iff _ _ _ (by omega), ih j]
        constructor
        · rintro (rfl | ⟨a, b⟩ | ⟨i, a, b, d⟩)
          · exact .inl ⟨by omega, h1, h2⟩
          · exact .inl ⟨by omega, b⟩
          · exact .inr ⟨i, a, by omega, d⟩
        · rintro (⟨a, b, d⟩ | ⟨i, a, b, d, e, f⟩)
          · by_cases hj : j = k
            · exact .inl hj
            · exact .inr (.inl ⟨by omega, b, d⟩)
          · by_cases hi : i = k
            · subst hi; rw [h2] at e; cases e; exact absurd rfl f
            · exact .inr (.inr ⟨i, a, by omega, d, e, f⟩)
      · rw [if_neg h2]
        by_cases h3 : pat[k]? = some c
        · rw [if_pos h3, set_iff _ _ _ (by omega), ih j]
          have hc : c ≠ 42 := by rintro rfl; exact h2 h3
          constructor
          · rintro (rfl | ⟨a, b⟩ | ⟨i, a, b, d⟩)
            · exact .inr ⟨k, rfl, by omega, h1, h3, hc⟩
            · exact .inl ⟨by omega, b⟩
            · exact .inr ⟨i, a, by omega, d⟩
          · rintro (⟨a, b, d⟩ | ⟨i, a, b, d, e, f⟩)
            · by_cases hj : j = k
              · subst hj; exact absurd d h2
              · exact .inr (.inl ⟨by omega, b, d⟩)
            · by_cases hi : i = k
              · subst hi; exact .inl a
              · exact .inr (.inr ⟨i, a, by omega, d, e, f⟩)
        · rw [if_neg h3, ih j]
          constructor
          · rintro (⟨a, b⟩ | ⟨i, a, b, d⟩)
            · exact .inl ⟨by omega, b⟩
            · exact .inr ⟨i, a, by omega, d⟩
          · rintro (⟨a, b, d⟩ | ⟨i, a, b, d, e, f⟩)
            · by_cases hj : j = k
              · subst hj; exact absurd d h2
              · exact .inl ⟨by omega, b, d⟩
            · by_cases hi : i = k
              · subst hi; exact absurd e h3
              · exact .inr ⟨i, a, by omega, d, e, f⟩
    · rw [if_neg h1, ih j]
      constructor
      · rintro (⟨a, b⟩ | ⟨i, a, b, d⟩)
        · exact .inl ⟨by omega, b⟩
        · exact .inr ⟨i, a, by omega, d⟩
      · rintro (⟨a, b, d⟩ | ⟨i, a, b, d, e, f⟩)
        · by_cases hj : j = k
          · subst hj; exact absurd b h1
          · exact .inl ⟨by omega, b, d⟩
        · by_cases hi : i = k
          · subst hi; exact absurd d h1
          · exact .inr ⟨i, a, by omega, d, e, f⟩

theorem nx_live (pat : List UInt8) (cur : List Bool) (c : UInt8) (t : List UInt8) (hcl : closedTo pat cur pat.length) :
    live pat (nx pat cur c pat.length) t ↔ live pat cur (c :: t) := by
  constructor
  · rintro ⟨j, h1, h2, h3⟩
    rcases (nx_iff pat cur c pat.length (Nat.le_refl _) j).1 h1 with ⟨a, b, d⟩ | ⟨i, rfl, b, d, e, f⟩
    · refine ⟨j, b, h2, ?_⟩
      rw [drop_of_get d] at h3 ⊢
      rw [gm_star_cons, h3]
      simp
    · refine ⟨i, d, by omega, ?_⟩
      rw [drop_of_get e, gm_lit_cons c f, h3]
      simp
  · rintro ⟨j, h1, h2, h3⟩
    -- down from the pattern's end
    have go : ∀ n j, pat.length - j ≤ n → cur[j]? = some true → j ≤ pat.length → gm (pat.drop j) (c :: t) = true → live pat (nx pat cur c pat.length) t := by
      intro n
      induction n with
      | zero =>
        intro j hn _ hj h
        rw [List.drop_of_length_le (by omega)] at h
        cases h
      | succ n ih =>
        intro j hn hcj hj h
        by_cases hjl : j = pat.length
        · rw [hjl, List.drop_of_length_le (Nat.le_refl _)] at h
          cases h
        · have hlt : j < pat.length := by omega
          have hg : pat[j]? = some pat[j] := List.getElem?_eq_getElem hlt
          by_cases h42 : pat[j] = 42
          · rw [h42] at hg
            rw [drop_of_get hg, gm_star_cons, Bool.or_eq_true] at h
            rcases h with h | h
            · exact ih (j + 1) (by omega) (hcl j hlt hcj hg) (by omega) h
            · exact ⟨j, (nx_iff pat cur c pat.length (Nat.le_refl _) j).2 (.inl ⟨hlt, hcj, hg⟩), hj, by rw [drop_of_get hg]; exact h⟩
          · rw [drop_of_get hg, gm_lit_cons _ h42, Bool.and_eq_true] at h
            have e : c = pat[j] := by simpa using h.1
            exact ⟨j + 1, (nx_iff pat cur c pat.length (Nat.le_refl _) (j + 1)).2 (.inr ⟨j, rfl, hlt, hcj, by rw [e]; exact hg, by rw [e]; exact h42⟩), by omega, h.2⟩
    exact go pat.length j (by omega) h1 h2 h3

/-- At the text's end: the pattern's end is reached. -/
theorem live_end (pat : List UInt8) (set : List Bool) (hcl : closedTo pat set pat.length) : live pat set [] ↔ set[pat.length]? = some true := by
  constructor
  · rintro ⟨j, h1, h2, h3⟩
    have go : ∀ n j, pat.length - j ≤ n → set[j]? = some true → j ≤ pat.length → gm (pat.drop j) [] = true → set[pat.length]? = some true := by
      intro n
      induction n with
      | zero =>
        intro j hn hs hj _
        have : j = pat.length := by omega
        rw [← this]
        exact hs
      | succ n ih =>
        intro j hn hs hj h
        by_cases hjl : j = pat.length
        · rw [← hjl]; exact hs
        · have hlt : j < pat.length := by omega
          have hg : pat[j]? = some pat[j] := List.getElem?_eq_getElem hlt
          by_cases h42 : pat[j] = 42
          · rw [h42] at hg
            rw [drop_of_get hg, gm_star_nil] at h
            exact ih (j + 1) (by omega) (hcl j hlt hs hg) (by omega) h
          · rw [drop_of_get hg, gm_lit_nil _ h42] at h
            cases h
    exact go pat.length j (by omega) h1 h2 h3
  · intro h
    exact ⟨pat.length, h, Nat.le_refl _, by rw [List.drop_of_length_le (Nat.le_refl _)]; rfl⟩

/-- The set at the start. -/
def st0 (pat : List UInt8) : List Bool := true :: List.replicate pat.length false
theorem st0_live (pat s : List UInt8) : live pat (st0 pat) s ↔ gm pat s = true := by
  constructor
  · rintro ⟨j, h1, h2, h3⟩
    cases j with
    | zero => simpa using h3
    | succ j =>
      simp only [st0, List.getElem?_cons_succ] at h1
      have := (List.getElem?_eq_some_iff.1 h1)
      obtain ⟨a, b⟩ := this
      simp at b
  · intro h
    exact ⟨0, rfl, Nat.zero_le _, by simpa using h⟩
end Go.Proofs.Qxb6605381aDoor.Gl
