/-
  decimal.plus at a sign or none and digits: the numeral of the sum.
-/
import Derived.Test.Qxb6606029aDoorRow
namespace Go.Proofs.Qxb6606029aDoor
open Go.RowKit Go.Joins

theorem prefix_yes (d : UInt8) (l : List UInt8) : Lib.hasPrefix (d :: l) [d] = true ∧ Lib.trimPrefix (d :: l) [d] = l := by
  have h : Lib.hasPrefix (d :: l) [d] = true := by simp [Lib.hasPrefix, List.isPrefixOf]
  exact ⟨h, by unfold Lib.trimPrefix; rw [if_pos h]; rfl⟩
theorem prefix_no (d : UInt8) : ∀ (l : List UInt8), l.head? ≠ some d → Lib.hasPrefix l [d] = false ∧ Lib.trimPrefix l [d] = l
  | [], _ => ⟨rfl, rfl⟩
  | c :: l, h => by
    have hne : ¬ d = c := fun e => h (by rw [e]; rfl)
    have h1 : Lib.hasPrefix (c :: l) [d] = false := by simp [Lib.hasPrefix, List.isPrefixOf, hne]
    exact ⟨h1, by unfold Lib.trimPrefix; rw [h1]; rfl⟩
theorem digs_head {l : List UInt8} (h : digs l = true) (d : UInt8) (hd : d.toNat < 48) : l.head? ≠ some d := by
  cases l with
  | nil => simp
  | cons c r =>
    intro e
    have := digs_mem h (List.mem_cons_self (a := c) (l := r))
    have hc : c = d := Option.some.inj e
    rw [hc] at this
    omega
def Sign (sg : List UInt8) : Prop := sg = [] ∨ sg = [43] ∨ sg = [45]
def sval (sg ds : List UInt8) : Int := if sg = [45] then -(val ds : Int) else val ds

theorem head_any (sg ds : List UInt8) (hsg : Sign sg) (hd : digs ds = true) : Head ⟨(sg ++ ds).toArray⟩ (decide (sg = [45])) ⟨(Lib.trimLeftB ds 48).toArray⟩ := by
  have c1 := fun s w => Tryd.strings_CutPrefix ⟨(s : List UInt8).toArray⟩ ⟨#[45]⟩ w
  have c2 := fun s w => Tryd.strings_TrimPrefix ⟨(s : List UInt8).toArray⟩ ⟨#[43]⟩ w
  have c3 := fun w => Tryd.strings_TrimLeft_one ⟨ds.toArray⟩ 48 (by decide) w
  have n45 := prefix_no 45 ds (digs_head hd 45 (by decide))
  have n43 := prefix_no 43 ds (digs_head hd 43 (by decide))
  rcases hsg with rfl | rfl | rfl
  · refine ⟨⟨ds.toArray⟩, ⟨ds.toArray⟩, fun w => ?_, fun w => ?_, c3⟩
    · have := c1 ds w
      rw [show (⟨ds.toArray⟩ : ByteArray).data.toList = ds by simp, show (⟨#[45]⟩ : ByteArray).data.toList = [45] from rfl, n45.1, n45.2] at this
      exact this
    · have := c2 ds w
      rw [show (⟨ds.toArray⟩ : ByteArray).data.toList = ds by simp, show (⟨#[43]⟩ : ByteArray).data.toList = [43] from rfl, n43.2] at this
      exact this
  · refine ⟨⟨(43 :: ds).toArray⟩, ⟨ds.toArray⟩, fun w => ?_, fun w => ?_, c3⟩
    · have := c1 (43 :: ds) w
      have m := prefix_no 45 (43 :: ds) (by simp)
      rw [show (⟨(43 :: ds).toArray⟩ : ByteArray).data.toList = 43 :: ds by simp, show (⟨#[45]⟩ : ByteArray).data.toList = [45] from rfl, m.1, m.2] at this
      exact this
    · have := c2 (43 :: ds) w
      rw [show (⟨(43 :: ds).toArray⟩ : ByteArray).data.toList = 43 :: ds by simp, show (⟨#[43]⟩ : ByteArray).data.toList = [43] from rfl, (prefix_yes 43 ds).2] at this
      exact this
  · refine ⟨⟨ds.toArray⟩, ⟨ds.toArray⟩, fun w => ?_, fun w => ?_, c3⟩
    · have := c1 (45 :: ds) w
      rw [show (⟨(45 :: ds).toArray⟩ : ByteArray).data.toList = 45 :: ds by simp, show (⟨#[45]⟩ : ByteArray).data.toList = [45] from rfl, (prefix_yes 45 ds).1, (prefix_yes 45 ds).2] at this
      exact this
    · have := c2 ds w
      rw [show (⟨ds.toArray⟩ : ByteArray).data.toList = ds by simp, show (⟨#[43]⟩ : ByteArray).data.toList = [43] from rfl, n43.2] at this
      exact this

/-- decimal.plus. -/
theorem plus_any (sg ds : List UInt8) (hsg : Sign sg) (hd : digs ds = true) (hl : ds.length ≤ 100000000) (n : Int) (hn0 : -4194304 ≤ n) (hn1 : n ≤ 4194304) (w : World) (ht : Tab w) :
    Calls Tryd.prog 20 #[.string ⟨(sg ++ ds).toArray⟩, .int .i64 n] w fun e w' => e = .returned (.string ⟨(Lib.itoa (sval sg ds + n)).toArray⟩) ∧ Below w.heap.size w w' := by
  have hh := head_any sg ds hsg hd
  have hD : digs (⟨(Lib.trimLeftB ds 48).toArray⟩ : ByteArray).data.toList = true := digs_trim hd
  have hv : val (⟨(Lib.trimLeftB ds 48).toArray⟩ : ByteArray).data.toList = val ds := val_trim ds
  have hsz : (⟨(Lib.trimLeftB ds 48).toArray⟩ : ByteArray).size ≤ 100000000 := by rw [Lib.size_mk]; exact Nat.le_trans (trim_length ds) hl
  by_cases h18 : (⟨(Lib.trimLeftB ds 48).toArray⟩ : ByteArray).size ≤ 18
  · have := plus_small _ _ _ hh hD h18 n hn0 hn1 w ht
    rw [hv] at this
    by_cases hs : sg = [45]
    · rw [decide_eq_true hs] at this
      unfold sval
      rw [if_pos hs]
      exact this
    · rw [decide_eq_false hs] at this
      unfold sval
      rw [if_neg hs]
      exact this
  · have hbig : 10 ^ 18 ≤ val ds := by
      rcases trim_head ds with e | ⟨c, r, e, hc⟩
      · rw [e] at h18
        exact absurd (by decide) h18
      · rw [← val_trim ds, e]
        refine Nat.le_trans ?_ (val_ge (by rw [← e]; exact digs_trim hd) hc)
        rw [e, Lib.size_mk, List.length_cons] at h18
        exact Nat.pow_le_pow_right (by decide) (by omega)
    have hbig' : (1000000000000000000 : Int) ≤ (val ds : Int) := by
      have : (10 : Nat) ^ 18 = 1000000000000000000 := by decide
      omega
    by_cases hs : sg = [45]
    · rw [decide_eq_true hs] at hh
      have := plus_big_neg _ _ hh hD (by omega) hsz n hn0 hn1 (by rw [hv]; omega) w ht
      rw [hv] at this
      unfold sval
      rw [if_pos hs, show -(val ds : Int) + n = -(((val ds : Int) - n).toNat : Int) by omega, Lib.itoa_neg _ (by omega)]
      exact this
    · rw [decide_eq_false hs] at hh
      have := plus_big_pos _ _ hh hD (by omega) hsz n hn0 hn1 (by rw [hv]; omega) w ht
      rw [hv] at this
      unfold sval
      rw [if_neg hs, show (val ds : Int) + n = (((val ds : Int) + n).toNat : Int) by omega, Lib.itoa_nonneg]
      exact this
end Go.Proofs.Qxb6606029aDoor
