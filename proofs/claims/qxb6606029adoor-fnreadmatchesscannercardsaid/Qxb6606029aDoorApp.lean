/-
  ROWS OF BYTES AND OF STRINGS THAT THE CALL ITSELF MAKES: appends, kept rows, string(b). Of whatever program.
-/
import Derived.Test.Qxb6606029aDoorRow
import Derived.WalkKit
import Derived.Laws.IdiomStrings
import Derived.OwnWalk
namespace Go.Proofs.Qxb6606029aDoor
open Go.RowKit

theorem bcs_append (a b : List UInt8) : bcs (a ++ b) = bcs a ++ bcs b := by simp [bcs]
/-- A row of another element type is kept. -/
theorem keep_other {w w' : World} {B B' : Nat} {e e' : TypeId} {sz sz' : Nat} {v v' : Value} {n n' : Nat} {xs xs' : List Value} (hne : e' ≠ e) (h : w.ownsRow B e sz v n xs) (h' : w.ownsRow B' e' sz' v' n' xs') (hg : w.grownBy w' v.ownBlock) :
    w'.ownsRow B' e' sz' v' n' xs' := by
  refine h'.kept hg ?_
  rcases h.2 with ⟨rfl, _⟩ | ⟨g, cap, cur, rfl, _, hb, _, _, _, _⟩
  · rcases h'.2 with ⟨rfl, _⟩ | ⟨g', cap', cur', rfl, _, hb', _, _, _, _⟩
    · exact .inl rfl
    · exact .inr (by simp [Value.ownBlock])
  · rcases h'.2 with ⟨rfl, _⟩ | ⟨g', cap', cur', rfl, _, hb', _, _, _, _⟩
    · exact .inl rfl
    · refine .inr fun hc => ?_
      simp only [Value.ownBlock, Option.some.injEq] at hc
      subst hc
      rw [hb] at hb'
      simp only [Option.some.injEq, Obj.cells.injEq] at hb'
      exact hne hb'.2.1.symm

theorem ownBlock_lt {w : World} {B : Nat} {e : TypeId} {sz : Nat} {v : Value} {n : Nat} {xs : List Value} (h : w.ownsRow B e sz v n xs) : ∀ k, v.ownBlock = some k → B ≤ k := fun k hk => (h.lt k hk).1

theorem addr_add (g j : Nat) : (⟨g, 0, none⟩ : Addr).add j = ⟨g, j, none⟩ := by
  unfold Addr.add
  by_cases h : j = 0
  · simp [h]
  · simp [h]

/-- 'b = append(b, c1, .., cm)', b a row of bytes of the call's own. -/
theorem wpList_appB {P : Program} {t e : TypeId} (ht : P.underlying t = some (.slice e)) (hI : (P.info? e).map (fun i => (i.zero, i.size, i.bytes)) = some (some (.int .u8 0), 1, 1)) (w0 : World) {ops : Array Oper} {rest : List Oper} {o : Oper} {a : Act} {Q : Exit → Act → World → Prop}
    (hgd : o.guard = none) (s x : Operand) (ho : o.op = .call { callee := .builtin .append, args := #[s, x], argTypes := #[t, t] })
    (B : Nat) (v : Value) (n : Nat) (l : List UInt8) (hs : a.eval s = v) (hown : w0.ownsRow B e 1 v n (bcs l)) (hB : B ≤ w0.heap.size)
    (cs : Array Value) (news : List UInt8) (hcs : cs.toList = bcs news) (m : Nat) (hm : m = news.length) (hx : a.eval x = .slice (some ⟨w0.heap.size, 0, none⟩) m m) (hn : n + m ≤ 140737488355328)
    (h : ∀ v' w', w'.ownsRow B e 1 v' (n + m) (bcs (l ++ news)) → Below B w0 w' → (w0.alloc (.cells cs e)).grownBy w' v.ownBlock → wpList P ops Q rest (a.put o.dst v') w') :
    wpList P ops Q (o :: rest) a (w0.alloc (.cells cs e)) := by
  obtain ⟨i0, hi, hz0, hz1, hz2⟩ := info_parts hI
  subst hm
  refine wpList_append_own _ hgd s x t ho B e i0 (.int .u8 0) 1 1 ht hi hz0 hz1 hz2 rfl (by decide) v n _ hs (hown.alloc _) ⟨w0.heap.size, 0, none⟩ news.length news.length (bcs news) hx (by simp [bcs_length]) ?_ ?_ (by unfold maxLen; omega) (by omega) (by simp; omega) ?_
  · intro j u hj
    rw [← hcs] at hj
    rw [addr_add, World.cell?_alloc_at _ _ _ _ rfl]
    simpa using hj
  · intro u hu
    simp only [bcs, List.mem_map] at hu
    obtain ⟨c, _, rfl⟩ := hu
    rfl
  · intro v' w' h1 h2 _
    refine h v' w' (by rw [bcs_append]; exact h1) (((Below.refl B w0).alloc hB _).grown h2 (by simp; omega) (ownBlock_lt hown)) h2

/-- 'string(b)' of a row of bytes. -/
theorem conv_row {P : Program} {w : World} {B : Nat} {t e d : TypeId} (ht : P.underlying t = some (.slice e)) (he : P.underlying e = some (.int .u8)) (hd : P.underlying d = some .string) {v : Value} {n : Nat} {l : List UInt8} (hown : w.ownsRow B e 1 v n (bcs l)) :
    (convert t d v).run P w = .ok (.string ⟨l.toArray⟩) w := by
  have hl := hown.1
  rw [bcs_length, Nat.mul_one] at hl
  have hc := fun g hg => hown.cells (g := g) hg
  rcases hown.2 with ⟨rfl, rfl⟩ | ⟨g, cap, cur, rfl, _, _, _, _, _, _⟩
  · have : l = [] := List.length_eq_zero_iff.1 hl
    subst this
    rw [run_convert_bytes_string w t d e none 0 0 ht he hd]
    rfl
  · subst hl
    exact run_convert_bytes_back w t d e ⟨g, 0, none⟩ cap l ht he hd (fun j hj => hc g rfl j _ (by simp [bcs, hj]))
end Go.Proofs.Qxb6606029aDoor
