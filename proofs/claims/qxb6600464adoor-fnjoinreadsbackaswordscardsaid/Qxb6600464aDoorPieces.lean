/-
  WHAT Quote WRITES IS A ROW OF PIECES: a bare byte, '..', ".." or $'..'. No Go in this text.
-/
import Derived.Test.Qxb6600464aDoorPlain
namespace Go.Proofs.Qxb6600464aDoor.Sw

/-- A piece: its kind (0: a bare byte, 1: single quotes, 2: double quotes, 3: dollar-single-quotes) and its value. -/
abbrev Piece := Nat × List UInt8
def Piece.text (p : Piece) : List UInt8 :=
  match p.1 with
  | 0 => p.2
  | 1 => 39 :: p.2 ++ [39]
  | 2 => 34 :: p.2 ++ [34]
  | _ => 36 :: 39 :: escape p.2 ++ [39]
def Piece.ok (p : Piece) : Prop :=
  (p.1 = 0 ∧ ∃ c, p.2 = [c] ∧ safeB c = true) ∨ (p.1 = 1 ∧ ∀ c ∈ p.2, c ≠ 39) ∨ (p.1 = 2 ∧ ∀ c ∈ p.2, c ≠ 34 ∧ c ≠ 92 ∧ c ≠ 36 ∧ c ≠ 96) ∨ p.1 = 3
def texts (ps : List Piece) : List UInt8 := ps.flatMap Piece.text
def vals (ps : List Piece) : List UInt8 := ps.flatMap (·.2)

def sqP : List UInt8 → List UInt8 → List Piece
  | acc, [] => [(1, acc)]
  | acc, c :: l => if c = 39 then (1, acc) :: (2, [39]) :: sqP [] l else sqP (acc ++ [c]) l

theorem sqP_texts : ∀ (l acc : List UInt8), texts (sqP acc l) = 39 :: acc ++ repl l ++ [39]
  | [], acc => by simp [sqP, texts, Piece.text, repl]
  | c :: l, acc => by
    unfold sqP
    by_cases h : c = 39
    · subst h
      rw [if_pos rfl]
      have ih := sqP_texts l []
      simp only [texts, List.flatMap_cons] at ih ⊢
      rw [ih]
      simp [Piece.text, repl, rep1]
    · rw [if_neg h, sqP_texts l (acc ++ [c])]
      simp [repl, rep1, h]
theorem sqP_vals : ∀ (l acc : List UInt8), vals (sqP acc l) = acc ++ l
  | [], acc => by simp [sqP, vals]
  | c :: l, acc => by
    unfold sqP
    by_cases h : c = 39
    · subst h
      rw [if_pos rfl]
      have ih := sqP_vals l []
      simp only [vals, List.flatMap_cons] at ih ⊢
      rw [ih]
      simp
    · rw [if_neg h, sqP_vals l (acc ++ [c])]
      simp
theorem sqP_ok : ∀ (l acc : List UInt8), (∀ c ∈ acc, c ≠ 39) → ∀ p ∈ sqP acc l, Piece.ok p
  | [], acc, h => by
    intro p hp
    simp only [sqP, List.mem_cons, List.mem_nil_iff, or_false] at hp
    subst hp
    exact .inr (.inl ⟨rfl, h⟩)
  | c :: l, acc, h => by
    intro p hp
    unfold sqP at hp
    by_cases hc : c = 39
    · rw [if_pos hc] at hp
      simp only [List.mem_cons] at hp
      rcases hp with rfl | rfl | hp
      · exact .inr (.inl ⟨rfl, h⟩)
      · exact .inr (.inr (.inl ⟨rfl, by decide⟩))
      · exact sqP_ok l [] (by simp) p hp
    · rw [if_neg hc] at hp
      refine sqP_ok l (acc ++ [c]) ?_ p hp
      intro x hx
      rcases List.mem_append.1 hx with hx | hx
      · exact h x hx
      · simp at hx; subst hx; exact hc
theorem sqP_ne : ∀ (l acc : List UInt8), sqP acc l ≠ []
  | [], acc => by simp [sqP]
  | c :: l, acc => by
    unfold sqP
    split
    · simp
    · exact sqP_ne l _

/-- The pieces of a quoted word. -/
def pieces (l : List UInt8) : List Piece :=
  if l = [] then [(1, [])]
  else if l.all safeB then l.map fun c => (0, [c])
  else if l.any ctlB then [(3, l)]
  else sqP [] l
theorem pieces_texts (l : List UInt8) : texts (pieces l) = quote l := by
  unfold pieces quote
  split
  · rfl
  · split
    · simp only [texts, List.flatMap_map]
      show List.flatMap (fun c => [c]) l = l
      simp
    · split
      · simp [texts, Piece.text]
      · rw [sqP_texts]; simp
theorem pieces_vals (l : List UInt8) : vals (pieces l) = l := by
  unfold pieces
  split
  · rename_i h; rw [h]; rfl
  · split
    · simp only [vals, List.flatMap_map]
      show List.flatMap (fun c => [c]) l = l
      simp
    · split
      · simp [vals]
      · rw [sqP_vals]; simp
theorem pieces_ok (l : List UInt8) : ∀ p ∈ pieces l, Piece.ok p := by
  intro p hp
  unfold pieces at hp
  split at hp
  · simp at hp; subst hp; exact .inr (.inl ⟨rfl, by simp⟩)
  · split at hp
    · rename_i h
      obtain ⟨c, hc, rfl⟩ := List.mem_map.1 hp
      exact .inl ⟨rfl, c, rfl, List.all_eq_true.1 h c hc⟩
    · split at hp
      · simp at hp; subst hp; exact .inr (.inr (.inr rfl))
      · exact sqP_ok l [] (by simp) p hp
theorem pieces_ne (l : List UInt8) : pieces l ≠ [] := by
  unfold pieces
  split
  · simp
  · split
    · rename_i h _; simpa using h
    · split
      · simp
      · exact sqP_ne l []

/-- The first byte of a piece is no blank. -/
theorem text_head (p : Piece) (h : Piece.ok p) : ∃ c r, Piece.text p = c :: r ∧ c ≠ 32 := by
  obtain ⟨k, l⟩ := p
  rcases h with ⟨rfl, c, h1, h2⟩ | ⟨rfl, _⟩ | ⟨rfl, _⟩ | rfl
  · refine ⟨c, [], h1, ?_⟩
    rintro rfl
    revert h2
    decide
  · exact ⟨39, _, rfl, by decide⟩
  · exact ⟨34, _, rfl, by decide⟩
  · exact ⟨36, _, rfl, by decide⟩
theorem texts_cons (p : Piece) (ps : List Piece) : texts (p :: ps) = Piece.text p ++ texts ps := rfl
theorem vals_cons (p : Piece) (ps : List Piece) : vals (p :: ps) = p.2 ++ vals ps := rfl

/-- The words behind the first, each behind a blank. -/
def behind (ws : List (List UInt8)) : List UInt8 := ws.flatMap fun w => 32 :: quote w
/-- The words, quoted, with single blanks between. -/
def line : List (List UInt8) → List UInt8
  | [] => []
  | w :: ws => quote w ++ behind ws
end Go.Proofs.Qxb6600464aDoor.Sw
