/-
  decimal.plus, by its contract: the sum's numeral.
-/
import Derived.Test.Qxb6606029aDoorForms
import Derived.Test.Qxb6606029aDoorRows
import Derived.Lib.AppendIntMem
import Derived.Lib.SmallJoins
import Derived.Shelf.Unicode.PredsPay
namespace Go.Proofs.Qxb6606029aDoor
open Go.RowKit Go.Joins

/-- The name of the table of powers of ten, as the row lists it. -/
def powName : String := Rows.fnReadInvertsRenderRow.named.getD 5 ""
abbrev Tab (w : World) : Prop := Lib.TabIs Tryd.prog w powName .u64 Lib.pow10Tab
theorem tab_below {w w' : World} (h : Tab w) (hb : Below w.heap.size w w') : Tab w' := TabIs_below (P := Tryd.prog) (g := 3) (by kernel_rfl) h hb
theorem below_next {w w1 w2 : World} (h1 : Below w.heap.size w w1) (h2 : Below w1.heap.size w1 w2) : Below w.heap.size w w2 := h1.trans (h2.mono h1.size)

theorem format_any (n : Int) (h0 : -9223372036854775808 ≤ n) (h1 : n ≤ 9223372036854775807) (w : World) (ht : Tab w) :
    Calls Tryd.prog 37 #[.int .i64 n, .int .i64 10] w fun e w' => e = .returned (.string ⟨(Lib.itoa n).toArray⟩) ∧ Below w.heap.size w w' :=
  (Any.strconv_FormatInt_10 Tryd.laysM173 n h0 h1 w ht).mono fun _ _ ⟨he, k, os, hw⟩ => ⟨he, hw ▸ Lib.below_grow _ w (Nat.le_refl _) k os⟩
theorem itoa_any (n : Int) (h0 : -9223372036854775808 ≤ n) (h1 : n ≤ 9223372036854775807) (w : World) (ht : Tab w) :
    Calls Tryd.prog 38 #[.int .i64 n] w fun e w' => e = .returned (.string ⟨(Lib.itoa n).toArray⟩) ∧ Below w.heap.size w w' :=
  (Any.strconv_Itoa Tryd.laysM171 n h0 h1 w ht).mono fun _ _ ⟨he, k, os, hw⟩ => ⟨he, hw ▸ Lib.below_grow _ w (Nat.le_refl _) k os⟩
theorem parse_any (s : ByteArray) (l : List UInt8) (hs : s.data.toList = 48 :: l) (hd : digs l = true) (hl : l.length ≤ 18) (w : World) :
    Calls Tryd.prog 36 #[.string s, .int .i64 10, .int .i64 64] w fun e w' => e = .returned (.tuple #[.int .i64 (val l), .nilIface]) ∧ Below w.heap.size w w' := by
  have hsz : s.size ≤ 9223372036854775806 := by rw [Lib.size_eq, hs, List.length_cons]; omega
  refine (Tryd.strconv_ParseInt_10_at64_ok s hsz (val l) (by rw [hs]; exact parse_small l hd hl) w).mono ?_
  rintro e w' ⟨he, rfl | ⟨t, rfl⟩⟩
  · exact ⟨he, Below.refl _ _⟩
  · exact ⟨he, below_bytesWorld _ _ _ _ (Nat.le_refl _)⟩

theorem ba_append (a b : List UInt8) : (⟨a.toArray⟩ : ByteArray) ++ ⟨b.toArray⟩ = ⟨(a ++ b).toArray⟩ := by
  apply ByteArray.ext
  simp

/-- The three calls ahead: the sign is cut, and the zeros ahead. -/
structure Head (s : ByteArray) (neg : Bool) (D : ByteArray) : Prop where
  calls : ∃ s1 s2 : ByteArray, (∀ w, Calls Tryd.prog 34 #[.string s, .string ⟨#[45]⟩] w fun e w' => e = .returned (.tuple #[.string s1, .bool neg]) ∧ w' = w) ∧
    (∀ w, Calls Tryd.prog 35 #[.string s1, .string ⟨#[43]⟩] w fun e w' => e = .returned (.string s2) ∧ w' = w) ∧
    (∀ w, Calls Tryd.prog 29 #[.string s2, .string ⟨#[48]⟩] w fun e w' => e = .returned (.string D) ∧ w' = w)

set_option maxHeartbeats 2000000 in
theorem plus_small (s : ByteArray) (neg : Bool) (D : ByteArray) (hh : Head s neg D) (hd : digs D.data.toList = true) (h18 : D.size ≤ 18) (n : Int) (hn0 : -4194304 ≤ n) (hn1 : n ≤ 4194304) (w : World) (ht : Tab w) :
    Calls Tryd.prog 20 #[.string s, .int .i64 n] w fun e w' => e = .returned (.string ⟨(Lib.itoa ((if neg then -(val D.data.toList : Int) else val D.data.toList) + n)).toArray⟩) ∧ Below w.heap.size w w' := by
  obtain ⟨s1, s2, c1, c2, c3⟩ := hh.calls
  have hl : D.data.toList.length ≤ 18 := by rw [← Lib.size_eq]; exact h18
  have hv := val_lt hd
  have hpw : 10 ^ D.data.toList.length ≤ 10 ^ 18 := Nat.pow_le_pow_right (by decide) hl
  have cp : ∀ w, Calls Tryd.prog 36 #[.string (⟨#[48]⟩ ++ D), .int .i64 10, .int .i64 64] w fun e w' => e = .returned (.tuple #[.int .i64 (val D.data.toList), .nilIface]) ∧ Below w.heap.size w w' :=
    fun w => parse_any _ D.data.toList (by simp) hd hl w
  obtain ⟨v, hvv⟩ : ∃ v, val D.data.toList = v := ⟨_, rfl⟩
  rw [hvv] at hv cp ⊢
  have hv18 : v < 1000000000000000000 := Nat.lt_of_lt_of_le hv hpw
  clear hv hpw hvv hl hd
  cases neg with
  | true =>
    go_enter Tryd.func20, Tryd.ntmps20
    go_wp2_with (first | (go_at_call 34; go_fit (c1 _); rintro e w1 ⟨rfl, rfl⟩) | (go_at_call 35; go_fit (c2 _); rintro e w1 ⟨rfl, rfl⟩) | (go_at_call 29; go_fit (c3 _); rintro e w1  ⟨rfl, rfl⟩) | (go_at_call 36; go_fit (cp _); rintro e w2 ⟨rfl, hb2⟩; have ht2 := tab_below ht hb2) | (go_at_call 37; go_fit (format_any _ (by omega) (by omega) _ ht2); rintro e w3 ⟨rfl, hb3⟩) | fail)
    go_ret
    exact ⟨rfl, below_next hb2 hb3⟩
  | false =>
    go_enter Tryd.func20, Tryd.ntmps20
    go_wp2_with (first | (go_at_call 34; go_fit (c1 _); rintro e w1 ⟨rfl, rfl⟩) | (go_at_call 35; go_fit (c2 _); rintro e w1 ⟨rfl, rfl⟩) | (go_at_call 29; go_fit (c3 _); rintro e w1  ⟨rfl, rfl⟩) | (go_at_call 36; go_fit (cp _); rintro e w2 ⟨rfl, hb2⟩; have ht2 := tab_below ht hb2) | (go_at_call 37; go_fit (format_any _ (by omega) (by omega) _ ht2); rintro e w3 ⟨rfl, hb3⟩) | fail)
    go_ret
    exact ⟨rfl, below_next hb2 hb3⟩
end Go.Proofs.Qxb6606029aDoor
