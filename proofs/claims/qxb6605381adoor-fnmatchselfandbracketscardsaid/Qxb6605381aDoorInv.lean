/-
  glob's loop: what holds at every round's head. No Go program in this text.
-/
import Derived.Test.Qxb6605381aDoorPlain
import GoSem.ClaimWide
namespace Go.Proofs.Qxb6605381aDoor.Gl

def Inv (pat s : List UInt8) (p i : Nat) (vs vm : Value) (g : Nat) : Prop :=
  (vs = .int .i64 (-1) ∧ vm = .int .i64 0 ∧ gm pat s = gm (pat.drop p) (s.drop i) ∧ g = s.length * (pat.length + 1) + (pat.length - p)) ∨
  (∃ (st mk : Nat) (L : List UInt8), vs = .int .i64 st ∧ vm = .int .i64 mk ∧ st < p ∧ mk ≤ i ∧ (∀ c ∈ L, c ≠ 42) ∧ pat.drop st = 42 :: (L ++ pat.drop p) ∧ s.drop mk = L ++ s.drop i ∧
    gm pat s = gm (42 :: (L ++ pat.drop p)) (L ++ s.drop i) ∧ g = (s.length - mk) * (pat.length + 1) + (pat.length - p))

theorem inv_start (pat s : List UInt8) : Inv pat s 0 0 (.int .i64 (-1)) (.int .i64 0) (s.length * (pat.length + 1) + (pat.length - 0)) :=
  .inl ⟨rfl, rfl, by simp, rfl⟩
theorem inv_end {pat s : List UInt8} {p i : Nat} {vs vm : Value} {g : Nat} (h : Inv pat s p i vs vm g) (he : s.drop i = []) : gm pat s = (pat.drop p).all (· == 42) := by
  rw [← gm_end]
  rcases h with ⟨_, _, h, _⟩ | ⟨st, mk, L, _, _, _, _, hL, _, _, h, _⟩
  · rw [h, he]
  · rw [h, he, star_end L _ hL]
theorem inv_star {pat s : List UInt8} {p i : Nat} {vs vm : Value} {g : Nat} (h : Inv pat s p i vs vm g) (hp : p < pat.length) (hd : pat.drop p = 42 :: pat.drop (p + 1)) :
    ∃ g', g' < g ∧ Inv pat s (p + 1) i (.int .i64 p) (.int .i64 i) g' := by
  refine ⟨(s.length - i) * (pat.length + 1) + (pat.length - (p + 1)), ?_, .inr ⟨p, i, [], rfl, rfl, by omega, Nat.le_refl _, by simp, hd, rfl, ?_, rfl⟩⟩
  · rcases h with ⟨_, _, _, rfl⟩ | ⟨st, mk, L, _, _, _, hm, _, _, _, _, rfl⟩
    · have := Nat.mul_le_mul_right (pat.length + 1) (show s.length - i ≤ s.length by omega)
      omega
    · have := Nat.mul_le_mul_right (pat.length + 1) (show s.length - i ≤ s.length - mk by omega)
      omega
  · rcases h with ⟨_, _, h, _⟩ | ⟨st, mk, L, _, _, _, _, hL, _, _, h, _⟩
    · rw [h, hd]; rfl
    · rw [h, hd, star_hit L _ _ hL]; rfl
theorem inv_char {pat s : List UInt8} {p i : Nat} {vs vm : Value} {g : Nat} {x : UInt8} (h : Inv pat s p i vs vm g) (hp : p < pat.length) (hx : x ≠ 42) (hd : pat.drop p = x :: pat.drop (p + 1)) (hs : s.drop i = x :: s.drop (i + 1)) :
    ∃ g', g' < g ∧ Inv pat s (p + 1) (i + 1) vs vm g' := by
  rcases h with ⟨h1, h2, h, rfl⟩ | ⟨st, mk, L, h1, h2, h3, h4, hL, h5, h6, h, rfl⟩
  · refine ⟨s.length * (pat.length + 1) + (pat.length - (p + 1)), by omega, .inl ⟨h1, h2, ?_, rfl⟩⟩
    rw [h, hd, hs, gm_lit_cons x hx]
    simp
  · have hL' : ∀ c ∈ L ++ [x], c ≠ 42 := by
      intro c hc
      rcases List.mem_append.1 hc with hc | hc
      · exact hL c hc
      · simp at hc; subst hc; exact hx
    have e1 : L ++ pat.drop p = (L ++ [x]) ++ pat.drop (p + 1) := by rw [hd]; simp
    have e2 : L ++ s.drop i = (L ++ [x]) ++ s.drop (i + 1) := by rw [hs]; simp
    exact ⟨(s.length - mk) * (pat.length + 1) + (pat.length - (p + 1)), by omega, .inr ⟨st, mk, L ++ [x], h1, h2, by omega, by omega, hL', by rw [h5, e1], by rw [h6, e2], by rw [h, e1, e2], rfl⟩⟩
theorem inv_back {pat s : List UInt8} {p i : Nat} {vs vm : Value} {g : Nat} (h : Inv pat s p i vs vm g) (hp : p ≤ pat.length) (hi : i < s.length) (hf : gm (pat.drop p) (s.drop i) = false) :
    (vs = .int .i64 (-1) ∧ gm pat s = false) ∨
    ∃ st mk : Nat, vs = .int .i64 st ∧ vm = .int .i64 mk ∧ st < pat.length ∧ mk < s.length ∧ ∃ g', g' < g ∧ Inv pat s (st + 1) (mk + 1) (.int .i64 st) (.int .i64 ((mk + 1 : Nat) : Int)) g' := by
  rcases h with ⟨h1, _, h, _⟩ | ⟨st, mk, L, h1, h2, h3, h4, hL, h5, h6, h, rfl⟩
  · exact .inl ⟨h1, by rw [h, hf]⟩
  · refine .inr ⟨st, mk, h1, h2, by omega, by omega, (s.length - (mk + 1)) * (pat.length + 1) + (pat.length - (st + 1)), ?_, .inr ⟨st, mk + 1, [], rfl, rfl, by omega, Nat.le_refl _, by simp, ?_, rfl, ?_, rfl⟩⟩
    · have : (s.length - mk) * (pat.length + 1) = (s.length - (mk + 1)) * (pat.length + 1) + (pat.length + 1) := by
        rw [show s.length - mk = (s.length - (mk + 1)) + 1 by omega, Nat.add_mul, Nat.one_mul]
      omega
    · rw [h5, List.nil_append]
      congr 1
      have : pat.drop (st + 1) = (pat.drop st).drop 1 := by simp
      rw [this, h5]
      rfl
    · have hmk : mk < s.length := by omega
      have e : s.drop mk = s[mk] :: s.drop (mk + 1) := List.drop_eq_getElem_cons hmk
      have e2 : pat.drop (st + 1) = L ++ pat.drop p := by
        have : pat.drop (st + 1) = (pat.drop st).drop 1 := by simp
        rw [this, h5]
        rfl
      rw [h, star_miss L _ _ s[mk] (s.drop (mk + 1)) hL hf (by rw [← h6, e]), e2]
      rfl
/-- A mismatch. -/
theorem miss_char {P T : List UInt8} (x y : UInt8) (hx : x ≠ 42) (hxy : x ≠ y) : gm (x :: P) (y :: T) = false := by
  rw [gm_lit_cons x hx]
  simp [Ne.symm hxy]
end Go.Proofs.Qxb6605381aDoor.Gl
