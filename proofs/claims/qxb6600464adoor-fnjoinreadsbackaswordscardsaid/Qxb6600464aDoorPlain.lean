/-
  THE PLAIN LAYER of seat b6600464aD: what Quote, Escape and Join compute, on lists of bytes; no Go, no program in this text.
-/
import Derived.Lib.Replace
namespace Go.Proofs.Qxb6600464aDoor.Sw

def safeSet : List UInt8 := [64, 37, 43, 61, 58, 44, 46, 47, 95, 45]
def safeB (c : UInt8) : Bool := (97 ≤ c && c ≤ 122) || (65 ≤ c && c ≤ 90) || (48 ≤ c && c ≤ 57) || safeSet.contains c
def ctlB (c : UInt8) : Bool := c < 32 || c == 127
def letters : List UInt8 := [97, 98, 116, 110, 118, 102, 114]
def esc1 (c : UInt8) : List UInt8 :=
  if c = 92 ∨ c = 39 then [92, c]
  else if 7 ≤ c ∧ c ≤ 13 then [92, letters.getD (c.toNat - 7) 0]
  else if ctlB c then [92, UInt8.ofNat (48 + c.toNat / 64), UInt8.ofNat (48 + c.toNat / 8 % 8), UInt8.ofNat (48 + c.toNat % 8)]
  else [c]
def escape (l : List UInt8) : List UInt8 := l.flatMap esc1
def rep1 (c : UInt8) : List UInt8 := if c = 39 then [39, 34, 39, 34, 39] else [c]
def repl (l : List UInt8) : List UInt8 := l.flatMap rep1
def quote (l : List UInt8) : List UInt8 :=
  if l = [] then [39, 39]
  else if l.all safeB then l
  else if l.any ctlB then 36 :: 39 :: escape l ++ [39]
  else 39 :: repl l ++ [39]

theorem all256 (p : UInt8 → Bool) (h : ∀ n : Nat, n < 256 → p (UInt8.ofNat n) = true) (c : UInt8) : p c = true := by
  have := h c.toNat c.toNat_lt
  simpa using this

theorem safe_not_ctl (c : UInt8) : (!safeB c || !ctlB c) = true := all256 (fun c => !safeB c || !ctlB c) (by decide +kernel) c
theorem esc1_no_ctl (c : UInt8) : (esc1 c).all (fun x => !ctlB x) = true := all256 (fun c => (esc1 c).all (fun x => !ctlB x)) (by decide +kernel) c

theorem escape_no_ctl (l : List UInt8) : ∀ x ∈ escape l, ctlB x = false := by
  intro x hx
  obtain ⟨c, _, hc⟩ := List.mem_flatMap.1 hx
  have := List.all_eq_true.1 (esc1_no_ctl c) x hc
  simpa using this

theorem repl_no_ctl (l : List UInt8) (h : l.any ctlB = false) : ∀ x ∈ repl l, ctlB x = false := by
  intro x hx
  obtain ⟨c, hm, hc⟩ := List.mem_flatMap.1 hx
  have hcc : ctlB c = false := by
    have := List.any_eq_false.1 h c hm
    simpa using this
  unfold rep1 at hc
  split at hc
  · clear hx; revert x; decide
  · simp at hc; subst hc; exact hcc

/-- Quote writes no control byte. -/
theorem quote_no_ctl (l : List UInt8) : ∀ x ∈ quote l, ctlB x = false := by
  intro x hx
  unfold quote at hx
  split at hx
  · revert x; decide
  · split at hx
    · rename_i h
      have h1 := List.all_eq_true.1 h x hx
      have h2 := safe_not_ctl x
      rw [h1] at h2
      simpa using h2
    · split at hx
      · simp only [List.cons_append, List.mem_cons, List.mem_append, List.mem_nil_iff, or_false] at hx
        rcases hx with rfl | rfl | hx | rfl
        · decide
        · decide
        · exact escape_no_ctl l x hx
        · decide
      · rename_i h
        have h' : l.any ctlB = false := by simpa using h
        simp only [List.cons_append, List.mem_cons, List.mem_append, List.mem_nil_iff, or_false] at hx
        rcases hx with rfl | hx | rfl
        · decide
        · exact repl_no_ctl l h' x hx
        · decide

theorem quote_ne_nil (l : List UInt8) : quote l ≠ [] := by
  unfold quote
  split
  · simp
  · split
    · assumption
    · split <;> simp

theorem esc1_len (c : UInt8) : 1 ≤ (esc1 c).length ∧ (esc1 c).length ≤ 4 := by
  unfold esc1
  repeat' split
  all_goals simp

theorem rep1_len (c : UInt8) : 1 ≤ (rep1 c).length ∧ (rep1 c).length ≤ 5 := by
  unfold rep1
  split <;> simp

theorem flatMap_len (f : UInt8 → List UInt8) (k : Nat) (hf : ∀ c, (f c).length ≤ k) : ∀ l : List UInt8, (l.flatMap f).length ≤ k * l.length
  | [] => by simp
  | c :: l => by
    have := flatMap_len f k hf l
    have := hf c
    rw [List.flatMap_cons, List.length_append, List.length_cons, Nat.mul_add]
    omega

theorem escape_len (l : List UInt8) : (escape l).length ≤ 4 * l.length := flatMap_len esc1 4 (fun c => (esc1_len c).2) l
theorem repl_len (l : List UInt8) : (repl l).length ≤ 5 * l.length := flatMap_len rep1 5 (fun c => (rep1_len c).2) l
theorem quote_len (l : List UInt8) : (quote l).length ≤ 5 * l.length + 3 := by
  have h1 := escape_len l
  have h2 := repl_len l
  unfold quote
  split
  · simp
  · split
    · omega
    · split
      · simp; omega
      · simp; omega

/-- strings.ReplaceAll at an old of one byte: byte by byte. -/
theorem replaceK_one : ∀ (l : List UInt8) (k : Nat), Lib.count l [39] ≤ k → Lib.replaceK [39] [39, 34, 39, 34, 39] k l = repl l
  | [], k, _ => by
    cases k with
    | zero => rfl
    | succ k => simp [Lib.replaceK, Lib.index, repl]
  | c :: l, k, hk => by
    by_cases hc : c = 39
    · subst hc
      rw [Lib.count_cons_eq] at hk
      obtain ⟨k', rfl⟩ : ∃ k', k = k' + 1 := ⟨k - 1, by omega⟩
      have hix : Lib.index (39 :: l) [39] = ((0 : Nat) : Int) := by rw [Lib.index]; simp [List.isPrefixOf]
      rw [Lib.replaceK_hit _ _ _ _ 0 hix]
      simp only [List.take_zero, List.nil_append, Nat.zero_add, List.length_cons, List.length_nil, List.drop_succ_cons, List.drop_zero]
      rw [replaceK_one l k' (by omega)]
      simp [repl, rep1]
    · rw [Lib.count_cons_ne c 39 l hc] at hk
      have hp : ([39] : List UInt8).isPrefixOf (c :: l) = false := by simp [List.isPrefixOf, Ne.symm hc]
      have hix : Lib.index (c :: l) [39] = if Lib.index l [39] == -1 then -1 else Lib.index l [39] + 1 := by rw [Lib.index, hp]; simp
      have ih := replaceK_one l k hk
      have e : repl (c :: l) = c :: repl l := by simp [repl, rep1, hc]
      rw [e, ← ih]
      cases k with
      | zero => rfl
      | succ k =>
        by_cases hm : Lib.index l [39] = -1
        · rw [Lib.replaceK, Lib.replaceK, hix, if_pos (beq_iff_eq.2 hm), hm]; simp
        · have hge := Lib.index_ge l [39]
          obtain ⟨j, hj⟩ : ∃ j : Nat, Lib.index l [39] = j := ⟨(Lib.index l [39]).toNat, by omega⟩
          have hix' : Lib.index (c :: l) [39] = ((j + 1 : Nat) : Int) := by rw [hix, if_neg (fun e => hm (beq_iff_eq.1 e)), hj]; omega
          rw [Lib.replaceK_hit _ _ _ _ _ hj, Lib.replaceK_hit _ _ _ _ _ hix']
          simp

theorem replaceAll_one (l : List UInt8) : Lib.replaceAll l [39] [39, 34, 39, 34, 39] = repl l := by
  unfold Lib.replaceAll Lib.replace
  rw [if_neg (by decide)]
  unfold Lib.replaceNum
  rw [if_pos (Or.inl (by decide))]
  exact replaceK_one l _ (Nat.le_refl _)

end Go.Proofs.Qxb6600464aDoor.Sw
