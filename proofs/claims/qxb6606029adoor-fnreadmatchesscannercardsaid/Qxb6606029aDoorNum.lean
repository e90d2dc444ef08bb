/-
  DECIMAL NUMERALS as lists of bytes, and the numbers that they spell: no Go in this text.
-/
import Derived.Lib.ItoaMem
import Derived.Lib.TrimByte
import Derived.Lib.ParseIntBCases
namespace Go.Proofs.Qxb6606029aDoor
open Go.Lib

def dig (c : UInt8) : Bool := decide (48 ≤ c.toNat) && decide (c.toNat ≤ 57)
def digs (l : List UInt8) : Bool := l.all dig
def val (l : List UInt8) : Nat := l.foldl (fun a c => a * 10 + (c.toNat - 48)) 0

theorem dig_iff (c : UInt8) : dig c = true ↔ 48 ≤ c.toNat ∧ c.toNat ≤ 57 := by
  simp [dig]
theorem digs_nil : digs [] = true := rfl
theorem digs_cons (c : UInt8) (l : List UInt8) : digs (c :: l) = (dig c && digs l) := rfl
theorem digs_append (a b : List UInt8) : digs (a ++ b) = (digs a && digs b) := by
  simp [digs, List.all_append]
theorem digs_mem {l : List UInt8} (h : digs l = true) {c : UInt8} (hc : c ∈ l) : 48 ≤ c.toNat ∧ c.toNat ≤ 57 := by
  rw [digs, List.all_eq_true] at h
  exact (dig_iff c).1 (h c hc)
theorem digs_of {l : List UInt8} (h : ∀ c ∈ l, 48 ≤ c.toNat ∧ c.toNat ≤ 57) : digs l = true := by
  rw [digs, List.all_eq_true]
  exact fun c hc => (dig_iff c).2 (h c hc)
theorem digs_drop {l : List UInt8} (h : digs l = true) (k : Nat) : digs (l.drop k) = true := digs_of fun _ hc => digs_mem h (List.mem_of_mem_drop hc)
theorem digs_take {l : List UInt8} (h : digs l = true) (k : Nat) : digs (l.take k) = true := digs_of fun _ hc => digs_mem h (List.mem_of_mem_take hc)

theorem val_nil : val [] = 0 := rfl
theorem val_concat (l : List UInt8) (c : UInt8) : val (l ++ [c]) = val l * 10 + (c.toNat - 48) := by
  simp [val, List.foldl_append]
theorem foldl_acc (l : List UInt8) : ∀ a : Nat, l.foldl (fun a c => a * 10 + (c.toNat - 48)) a = a * 10 ^ l.length + val l := by
  induction l with
  | nil => intro a; simp [val]
  | cons c l ih =>
    intro a
    rw [List.foldl_cons, ih]
    have h2 : val (c :: l) = (0 * 10 + (c.toNat - 48)) * 10 ^ l.length + val l := by
      show List.foldl _ _ _ = _
      rw [List.foldl_cons, ih]
    rw [h2, List.length_cons, Nat.pow_succ, Nat.add_mul, Nat.zero_mul, Nat.zero_add]
    rw [Nat.add_assoc]
    congr 1
    rw [Nat.mul_assoc, Nat.mul_comm 10]
theorem val_append (a b : List UInt8) : val (a ++ b) = val a * 10 ^ b.length + val b := by
  show List.foldl _ _ _ = _
  rw [List.foldl_append, foldl_acc b]
  rfl
theorem val_cons (c : UInt8) (l : List UInt8) : val (c :: l) = (c.toNat - 48) * 10 ^ l.length + val l := by
  have := val_append [c] l
  rw [show [c] ++ l = c :: l from rfl] at this
  rw [this]
  simp [val]
theorem val_lt : ∀ {l : List UInt8}, digs l = true → val l < 10 ^ l.length
  | [], _ => by simp [val]
  | c :: l, h => by
    rw [digs_cons, Bool.and_eq_true] at h
    have h1 := (dig_iff c).1 h.1
    have h2 := val_lt h.2
    rw [val_cons, List.length_cons, Nat.pow_succ]
    have h3 : (c.toNat - 48) * 10 ^ l.length ≤ 9 * 10 ^ l.length := Nat.mul_le_mul_right _ (by omega)
    omega
theorem val_ge {c : UInt8} {l : List UInt8} (h : digs (c :: l) = true) (hc : c ≠ 48) : 10 ^ l.length ≤ val (c :: l) := by
  rw [digs_cons, Bool.and_eq_true] at h
  have h1 := (dig_iff c).1 h.1
  have h0 : c.toNat ≠ 48 := fun e => hc (UInt8.toNat_inj.1 (by simpa using e))
  rw [val_cons]
  have h3 : 1 * 10 ^ l.length ≤ (c.toNat - 48) * 10 ^ l.length := Nat.mul_le_mul_right _ (by omega)
  omega
theorem val_zero (l : List UInt8) : val (48 :: l) = val l := by
  rw [val_cons]
  simp
theorem trim_cons (c : UInt8) (l : List UInt8) : trimLeftB (c :: l) 48 = if c = 48 then trimLeftB l 48 else c :: l := by
  unfold trimLeftB
  by_cases h : c = 48
  · subst h; simp
  · simp [h]
theorem val_trim : ∀ l : List UInt8, val (trimLeftB l 48) = val l
  | [] => rfl
  | c :: l => by
    rw [trim_cons]
    split
    · rename_i h
      subst h
      rw [val_zero, val_trim l]
    · rfl
theorem digs_trim : ∀ {l : List UInt8}, digs l = true → digs (trimLeftB l 48) = true
  | [], _ => rfl
  | c :: l, h => by
    rw [trim_cons]
    split
    · rw [digs_cons, Bool.and_eq_true] at h
      exact digs_trim h.2
    · exact h
theorem trim_length : ∀ l : List UInt8, (trimLeftB l 48).length ≤ l.length
  | [] => Nat.le_refl _
  | c :: l => by
    rw [trim_cons]
    split
    · have := trim_length l
      simp only [List.length_cons]
      omega
    · exact Nat.le_refl _
/-- What a trim leaves is empty, or begins with no zero. -/
theorem trim_head : ∀ l : List UInt8, trimLeftB l 48 = [] ∨ ∃ c r, trimLeftB l 48 = c :: r ∧ c ≠ 48
  | [] => Or.inl rfl
  | c :: l => by
    rw [trim_cons]
    split
    · exact trim_head l
    · rename_i h
      exact Or.inr ⟨c, l, rfl, h⟩
theorem trim_same {l : List UInt8} (h : l = [] ∨ ∃ c r, l = c :: r ∧ c ≠ 48) : trimLeftB l 48 = l := by
  rcases h with rfl | ⟨c, r, rfl, h⟩
  · rfl
  · rw [trim_cons, if_neg h]

theorem decDigits_small {u : Nat} (h : u < 10) : decDigits u = [UInt8.ofNat (48 + u)] := decDigits_one h
theorem decDigits_big {u : Nat} (h : ¬ u < 10) : decDigits u = decDigits (u / 10) ++ [UInt8.ofNat (48 + u % 10)] := by
  rw [decDigits, dif_neg h]
theorem ofNat_dig (d : Nat) (h : d < 10) : (UInt8.ofNat (48 + d)).toNat = 48 + d := by
  rw [UInt8.toNat_ofNat']
  omega
theorem ofNat_sub (c : UInt8) (h : 48 ≤ c.toNat) : UInt8.ofNat (48 + (c.toNat - 48)) = c := by
  apply UInt8.toNat_inj.1
  rw [UInt8.toNat_ofNat']
  have := c.toNat_lt
  omega
theorem val_decDigits (u : Nat) : val (decDigits u) = u := by
  induction u using Nat.strongRecOn with
  | _ u ih =>
    by_cases h : u < 10
    · rw [decDigits_small h, show [UInt8.ofNat (48 + u)] = [] ++ [UInt8.ofNat (48 + u)] from rfl, val_concat, ofNat_dig u h, val_nil]
      omega
    · rw [decDigits_big h, val_concat, ih (u / 10) (by omega), ofNat_dig _ (by omega)]
      omega
theorem digs_decDigits (u : Nat) : digs (decDigits u) = true := by
  induction u using Nat.strongRecOn with
  | _ u ih =>
    by_cases h : u < 10
    · rw [decDigits_small h]
      exact digs_of fun c hc => by
        rw [List.mem_singleton.1 hc, ofNat_dig u h]
        omega
    · rw [decDigits_big h, digs_append, ih (u / 10) (by omega), Bool.true_and]
      exact digs_of fun c hc => by
        rw [List.mem_singleton.1 hc, ofNat_dig _ (by omega)]
        omega
/-- A numeral without a zero ahead is THE numeral of its number. -/
theorem decDigits_val : ∀ (n : Nat) (c : UInt8) (l : List UInt8), l.length = n → digs (c :: l) = true → c ≠ 48 → decDigits (val (c :: l)) = c :: l
  | 0, c, l, hn, hd, hc => by
    have hl : l = [] := List.length_eq_zero_iff.1 hn
    subst hl
    have h1 := digs_mem hd (List.mem_singleton.2 rfl)
    have hv : val [c] = c.toNat - 48 := by rw [val_cons]; simp [val]
    rw [hv, decDigits_small (by omega), ofNat_sub c h1.1]
  | n + 1, c, l, hn, hd, hc => by
    rcases List.eq_nil_or_concat l with rfl | ⟨m, d, hm⟩
    · simp at hn
    · rw [List.concat_eq_append] at hm
      subst hm
      have hlen : m.length = n := by simpa using hn
      rw [← List.cons_append] at hd ⊢
      rw [digs_append, Bool.and_eq_true] at hd
      have hdd := digs_mem hd.2 (List.mem_singleton.2 rfl)
      have ih := decDigits_val n c m hlen hd.1 hc
      have hge := val_ge hd.1 hc
      have hp : 1 ≤ 10 ^ m.length := Nat.one_le_pow _ _ (by decide)
      rw [val_concat, decDigits_big (by omega)]
      have e1 : (val (c :: m) * 10 + (d.toNat - 48)) / 10 = val (c :: m) := by omega
      have e2 : (val (c :: m) * 10 + (d.toNat - 48)) % 10 = d.toNat - 48 := by omega
      rw [e1, e2, ih, ofNat_sub d hdd.1]
theorem trim_val {l : List UInt8} (h : digs l = true) (hv : 0 < val l) : trimLeftB l 48 = decDigits (val l) := by
  rcases trim_head l with e | ⟨c, r, e, hc⟩
  · have := val_trim l
    rw [e, val_nil] at this
    omega
  · have h1 := digs_trim h
    have h2 := val_trim l
    rw [e] at h1 h2
    rw [← h2, decDigits_val r.length c r rfl h1 hc, e]
theorem trim_val_zero {l : List UInt8} (h : digs l = true) (hv : val l = 0) : trimLeftB l 48 = [] := by
  rcases trim_head l with e | ⟨c, r, e, hc⟩
  · exact e
  · have h1 := digs_trim h
    have h2 := val_trim l
    rw [e] at h1 h2
    have := val_ge h1 hc
    have hp : 1 ≤ 10 ^ r.length := Nat.one_le_pow _ _ (by decide)
    omega
theorem parseM_digs : ∀ (l : List UInt8) (acc : Nat), digs l = true → (acc + 1) * 10 ^ l.length ≤ 1000000000000000000 → parseUintM 18446744073709551615 acc l = .ok (acc * 10 ^ l.length + val l)
  | [], acc, _, _ => by simp [parseUintM, val]
  | c :: l, acc, h, hb => by
    rw [digs_cons, Bool.and_eq_true] at h
    have h1 := (dig_iff c).1 h.1
    have hp : 1 ≤ 10 ^ l.length := Nat.one_le_pow _ _ (by decide)
    rw [List.length_cons, Nat.pow_succ] at hb
    have hb2 : (acc + 1) * 10 ≤ 1000000000000000000 := Nat.le_trans (by
      have : (acc + 1) * 10 * 1 ≤ (acc + 1) * 10 * 10 ^ l.length := Nat.mul_le_mul_left _ hp
      rw [Nat.mul_one, Nat.mul_assoc, Nat.mul_comm 10] at this
      exact this) hb
    have hb3 : (acc * 10 + (c.toNat - 48) + 1) * 10 ^ l.length ≤ 1000000000000000000 := Nat.le_trans (by
      rw [Nat.mul_comm (10 ^ l.length) 10, ← Nat.mul_assoc]
      exact Nat.mul_le_mul_right _ (by omega)) hb
    have ih := parseM_digs l (acc * 10 + (c.toNat - 48)) h.2 hb3
    rw [parseUintM, if_pos h1, if_neg (by omega), if_neg (by omega), ih]
    congr 1
    rw [val_cons, List.length_cons, Nat.pow_succ, Nat.add_mul, Nat.add_assoc]
    congr 1
    rw [Nat.mul_assoc, Nat.mul_comm 10]
/-- strconv.ParseInt at a zero and up to 18 digits. -/
theorem parse_small (l : List UInt8) (h : digs l = true) (hl : l.length ≤ 18) : parseIntB 64 (48 :: l) = .ok (val l : Int) := by
  have hpw : 10 ^ l.length ≤ 10 ^ 18 := Nat.pow_le_pow_right (by decide) hl
  have h0 : digs (48 :: l) = true := by rw [digs_cons, h]; rfl
  have hu : parseUintB 64 (48 :: l) = .ok (val l) := by
    have h1 : parseUintM 18446744073709551615 0 (48 :: l) = parseUintM 18446744073709551615 0 l := by
      rw [parseUintM, if_pos (by decide), if_neg (by decide), if_neg (by decide)]
      rfl
    show (if (48 :: l) = [] then _ else parseUintM 18446744073709551615 0 (48 :: l)) = _
    rw [if_neg (by simp), h1, parseM_digs l 0 h (by omega), Nat.zero_mul, Nat.zero_add]
  have hv := val_lt h
  rw [parseIntB_plain 64 48 l (by decide) (by decide), hu]
  show (if 2 ^ (64 - 1) ≤ val l then _ else _) = _
  rw [if_neg (by
    have : (10 : Nat) ^ 18 < 2 ^ (64 - 1) := by decide
    omega)]
end Go.Proofs.Qxb6606029aDoor
