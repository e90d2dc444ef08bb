/-
  THE FUNCTIONS OVER SLICES OF STRINGS: the counts, the clone, Join, the comparison; each by its contract.
-/
import Derived.Test.Qxb6600464aDoorQuote
import Derived.Test.Qxb6600464aDoorRead
import Derived.Laws.OwnMore
import Derived.Lib.Hide
namespace Go.Proofs.Qxb6600464aDoor
open Go.RowKit Sw

/-- A slice of strings: its address, and what its cells hold. -/
def HS (w : World) (ao : Option Addr) (xs : List ByteArray) : Prop :=
  xs = [] ∨ ∃ b off, ao = some ⟨b, off, none⟩ ∧ b < w.heap.size ∧ ∀ (j : Nat) (hj : j < xs.length), w.cell? ⟨b, off + j, none⟩ = some (.string xs[j])
theorem HS.below {w w' : World} {ao : Option Addr} {xs : List ByteArray} (h : HS w ao xs) (hb : Below w.heap.size w w') : HS w' ao xs := by
  rcases h with h | ⟨b, off, h1, h2, h3⟩
  · exact .inl h
  · exact .inr ⟨b, off, h1, Nat.lt_of_lt_of_le h2 hb.size, fun j hj => (hb.cell (p := ⟨b, off + j, none⟩) h2).trans (h3 j hj)⟩
def total (xs : List ByteArray) : Nat := (xs.map (·.size)).sum
theorem total_take (xs : List ByteArray) (k : Nat) (hk : k < xs.length) : total (xs.take (k + 1)) = total (xs.take k) + xs[k].size := by
  rw [List.take_succ_eq_append_getElem hk]
  unfold total
  rw [List.map_append, List.sum_append]
  simp
theorem total_all (xs : List ByteArray) (k : Nat) (hk : ¬ k < xs.length) : xs.take k = xs := List.take_of_length_le (by omega)
theorem ownsRow_below {w w' : World} {B : Nat} {e : TypeId} {sz : Nat} {v : Value} {n : Nat} {xs : List Value} (h : w.ownsRow B e sz v n xs) (hb : Below w.heap.size w w') : w'.ownsRow B e sz v n xs :=
  h.kept (row := none) ⟨hb.os, hb.tape, hb.output, hb.size, fun k hk _ => hb.block k hk⟩ (by
    cases hv : v.ownBlock with
    | none => exact .inl rfl
    | some k => exact .inr (by simp))

set_option maxHeartbeats 1000000 in
/-- zzBytes_FnJoinReadsBackAsWords: whatever it answers; where it says yes, the lengths are small. -/
theorem bytes10_any (ao : Option Addr) (cap : Nat) (xs : List ByteArray) (w : World) (hx : HS w ao xs) (hn : xs.length ≤ maxLen) :
    Calls Tryd.prog 10 #[.slice ao xs.length cap] w fun e w' => ∃ b, e = .returned (.bool b) ∧ (b = true → xs.length ≤ 1048576 ∧ total xs ≤ 1048576) ∧ w' = w := by
  unfold maxLen at hn
  by_cases h1 : xs.length ≤ 1048576
  · rcases hx with rfl | ⟨b, off, rfl, hb, hcell⟩
    · go_enter Tryd.func10, Tryd.ntmps10
      go_wp2_with fail
      refine wp_loop_rounds 1 ?_
      rw [rounds_succ]
      go_wp2_with fail
      go_ret
      exact ⟨_, rfl, fun _ => ⟨by simp, by simp [total]⟩, rfl⟩
    · have HC : Hid _ := hcell
      clear hcell
      go_enter Tryd.func10, Tryd.ntmps10
      go_wp2_with fail
      go_loopg [3, 4] xs.length (fun g n i wr => ∃ k : Nat, k + g = xs.length ∧ i = .int .i64 k ∧ (∃ z : Nat, n = .int .i64 z ∧ z = xs.length + total (xs.take k) ∧ z ≤ 1048576) ∧ wr = w)
      case atStart => exact ⟨0, by omega, rfl, ⟨xs.length, rfl, by simp [total], h1⟩, rfl⟩
      case round =>
        obtain ⟨k, hk, rfl, ⟨z, rfl, hz, hz2⟩, rfl⟩ := hrel
        have HG : Hid _ := hk
        have HZ : Hid _ := hz
        clear hk hz
        by_cases hlt : k < xs.length
        · have hc := HC.out k hlt
          have ht := total_take xs k hlt
          have HT : Hid _ := ht
          clear ht
          obtain ⟨y, hy⟩ : ∃ y, xs[k] = y := ⟨_, rfl⟩
          rw [hy] at hc
          have HY : Hid _ := hy
          clear hy
          by_cases hy1 : y.size ≤ 1048576
          · by_cases hy2 : z + y.size ≤ 1048576
            · go_wp2_with fail
              go_roundg (xs.length - (k + 1))
              case measure => have := HG.out; omega
              case rel => exact ⟨k + 1, by omega, by go_num, ⟨z + y.size, by go_num, by rw [HT.out, HY.out, HZ.out]; omega, hy2⟩, rfl⟩
            · go_wp2_with fail
              go_ret
              exact ⟨_, rfl, (fun h => absurd h (by decide)), rfl⟩
          · go_wp2_with fail
            go_ret
            exact ⟨_, rfl, (fun h => absurd h (by decide)), rfl⟩
        · go_wp2_with fail
          go_ret
          refine ⟨_, rfl, fun _ => ⟨h1, ?_⟩, rfl⟩
          have := HZ.out
          rw [total_all xs k hlt] at this
          omega
  · go_enter Tryd.func10, Tryd.ntmps10
    go_wp2_with fail
    go_ret
    exact ⟨_, rfl, (fun h => absurd h (by decide)), rfl⟩

set_option maxHeartbeats 1000000 in
/-- zzByteCount: some number. -/
theorem count11_any (ao : Option Addr) (cap : Nat) (xs : List ByteArray) (w : World) (hx : HS w ao xs) (hn : xs.length ≤ 1048576) (ht : total xs ≤ 1048576) :
    Calls Tryd.prog 11 #[.slice ao xs.length cap] w fun e w' => ∃ c : Nat, c ≤ 100000000 ∧ e = .returned (.int .i64 c) ∧ w' = w := by
  rcases hx with rfl | ⟨b, off, rfl, hb, hcell⟩
  · go_enter Tryd.func11, Tryd.ntmps11
    go_wp2_with fail
    refine wp_loop_rounds 1 ?_
    rw [rounds_succ]
    go_wp2_with fail
    go_ret
    exact ⟨0, by omega, rfl, rfl⟩
  · have HC : Hid _ := hcell
    clear hcell
    have hty : ∀ k (hk : k < xs.length), total (xs.take k) + xs[k].size ≤ 1048576 := fun k hk => by
      rw [← total_take xs k hk]
      have : total xs = total (xs.take (k + 1)) + total (xs.drop (k + 1)) := by
        unfold total
        rw [← List.sum_append, ← List.map_append, List.take_append_drop]
      omega
    have HT : Hid _ := hty
    clear hty
    go_enter Tryd.func11, Tryd.ntmps11
    go_wp2_with fail
    go_loopg [3, 4] xs.length (fun g n i wr => ∃ k : Nat, k + g = xs.length ∧ i = .int .i64 k ∧ (∃ z : Nat, n = .int .i64 z ∧ z = 8 * xs.length + total (xs.take k)) ∧ wr = w)
    case atStart => exact ⟨0, by omega, rfl, ⟨8 * xs.length, by go_num, by simp [total]⟩, rfl⟩
    case round =>
      obtain ⟨k, hk, rfl, ⟨z, rfl, hz⟩, rfl⟩ := hrel
      have HG : Hid _ := hk
      have hzb : z ≤ 10000000 := by
        have : total xs = total (xs.take k) + total (xs.drop k) := by
          unfold total
          rw [← List.sum_append, ← List.map_append, List.take_append_drop]
        omega
      have HZ : Hid _ := hz
      clear hk hz
      by_cases hlt : k < xs.length
      · have hc := HC.out k hlt
        have hy3 := HT.out k hlt
        have HT1 : Hid _ := total_take xs k hlt
        obtain ⟨y, hy⟩ : ∃ y, xs[k] = y := ⟨_, rfl⟩
        rw [hy] at hc hy3
        have HY : Hid _ := hy
        clear hy
        have hy4 : y.size ≤ 1048576 := by omega
        clear hy3
        by_cases hy2 : z + y.size ≤ 1048576
        · go_wp2_with fail
          go_roundg (xs.length - (k + 1))
          case measure => have := HG.out; omega
          case rel => exact ⟨k + 1, by omega, by go_num, ⟨z + y.size, by go_num, by rw [HT1.out, HY.out, HZ.out]; omega⟩, rfl⟩
        · go_wp2_with fail
          go_ret
          exact ⟨1048577, by omega, rfl, rfl⟩
      · go_wp2_with fail
        go_ret
        exact ⟨z, by omega, rfl, rfl⟩

theorem set_mid (a : List Value) (b : Value) (r : List Value) (u : Value) (n : Nat) (h : a.length = n) : (a ++ b :: r).set n u = a ++ u :: r := by
  subst h
  simp
theorem rep_succ (n k : Nat) (h : k < n) (z : Value) : List.replicate (n - k) z = z :: List.replicate (n - (k + 1)) z := by
  rw [show n - k = (n - (k + 1)) + 1 by omega, List.replicate_succ]
/-- The first k are laid, the rest are empty. -/
def part (xs : List ByteArray) (k : Nat) : List Value := scs (xs.take k) ++ List.replicate (xs.length - k) (.string ⟨#[]⟩)
theorem part_zero (xs : List ByteArray) : part xs 0 = List.replicate xs.length (.string ⟨#[]⟩) := by simp [part, scs]
theorem part_all (xs : List ByteArray) (k : Nat) (h : ¬ k < xs.length) : part xs k = scs xs := by
  unfold part
  rw [List.take_of_length_le (by omega), show xs.length - k = 0 by omega]
  simp
theorem part_set (xs : List ByteArray) (k : Nat) (h : k < xs.length) : (part xs k).set k (.string xs[k]) = part xs (k + 1) := by
  unfold part
  rw [rep_succ xs.length k h, set_mid _ _ _ _ k (by simp [scs]; omega), List.take_succ_eq_append_getElem h]
  unfold scs
  rw [List.map_append, List.append_assoc]
  rfl

set_option maxHeartbeats 1000000 in
/-- zzCloneStrings: a row of the call's own with the same strings. -/
theorem clone12_any (ao : Option Addr) (cap : Nat) (xs : List ByteArray) (w : World) (hx : HS w ao xs) (hn : xs.length ≤ 1048576) (hnil : ao = none → xs = [] ∧ cap = 0) :
    Calls Tryd.prog 12 #[.slice ao xs.length cap] w fun e w' => ∃ v', e = .returned v' ∧ w'.ownsRow w.heap.size 9 1 v' xs.length (scs xs) ∧ Below w.heap.size w w' := by
  obtain ⟨i0, hi, hz0, hz1, hz2⟩ := info_parts Tryd.info9
  cases ao with
  | none =>
    obtain ⟨rfl, rfl⟩ := hnil rfl
    have he : ∀ w : World, (binOp .eql 23 (.slice none 0 0) (.slice none 0 0)).run Tryd.prog w = .ok (.bool true) w := fun _ => rfl
    go_enter Tryd.func12, Tryd.ntmps12
    go_wp2_with fail
    go_ret
    exact ⟨_, rfl, World.ownsRow_nil _ _ _ _, Below.refl _ _⟩
  | some a =>
    have he : ∀ (n : Nat) (w : World), (binOp .eql 23 (.slice (some a) n cap) (.slice none 0 0)).run Tryd.prog w = .ok (.bool false) w := fun _ _ => rfl
    clear hnil
    have hcell : xs = [] ∨ ∃ b off, a = ⟨b, off, none⟩ ∧ b < w.heap.size ∧ ∀ (j : Nat) (hj : j < xs.length), w.cell? ⟨b, off + j, none⟩ = some (.string xs[j]) := by
      rcases hx with h | ⟨b, off, h1, h2⟩
      · exact .inl h
      · exact .inr ⟨b, off, Option.some.inj h1, h2⟩
    clear hx
    rcases hcell with rfl | ⟨b, off, rfl, hb, hcell⟩
    · go_enter Tryd.func12, Tryd.ntmps12
      go_wp2_with (at_make; refine wpList_make_full _ rfl _ _ 23 rfl w.heap.size 9 i0 (.string ⟨#[]⟩) 1 Tryd.underlying23 hi hz0 hz1 _ _ _ _ 0 rfl rfl rfl rfl (by rw [hz2]; omega) (by unfold maxLen; omega) (Nat.le_refl _) ?_)
      intro w1 ho hg
      rw [toList_madeCells_one] at ho
      go_wp2_with fail
      refine wp_loop_rounds 1 ?_
      rw [rounds_succ]
      go_wp2_with fail
      go_ret
      exact ⟨_, rfl, ho, (Below.refl _ _).grown hg (Nat.le_refl _) (fun k hk => by cases hk)⟩
    · have HC : Hid _ := hcell
      clear hcell
      go_enter Tryd.func12, Tryd.ntmps12
      go_wp2_with (at_make; refine wpList_make_full _ rfl _ _ 23 rfl w.heap.size 9 i0 (.string ⟨#[]⟩) 1 Tryd.underlying23 hi hz0 hz1 _ _ _ _ xs.length rfl rfl rfl rfl (by rw [hz2]; omega) (by unfold maxLen; omega) (Nat.le_refl _) ?_)
      intro w1 ho hg
      have hb1 : Below w.heap.size w w1 := (Below.refl _ _).grown hg (Nat.le_refl _) (fun k hk => by cases hk)
      clear hg
      have ho1 : w1.ownsRow w.heap.size 9 1 (.slice (some ⟨w.heap.size, 0, none⟩) xs.length xs.length) xs.length (part xs 0) := by
        rw [part_zero]
        rw [toList_madeCells_one] at ho
        exact ho
      clear ho
      go_wp2_with fail
      go_loopg [4] xs.length (fun g i wr => ∃ k : Nat, k + g = xs.length ∧ i = .int .i64 k ∧ wr.ownsRow w.heap.size 9 1 (.slice (some ⟨w.heap.size, 0, none⟩) xs.length xs.length) xs.length (part xs k) ∧ Below w.heap.size w wr)
      case atStart => exact ⟨0, by omega, rfl, ho1, hb1⟩
      case round =>
        obtain ⟨k, hk, rfl, hok, hbk⟩ := hrel
        have HG : Hid _ := hk
        clear hk ho1 hb1
        by_cases hlt : k < xs.length
        · have hc := (hbk.cell (p := ⟨b, off + k, none⟩) hb).trans (HC.out k hlt)
          have hs := hok.stored k (.string xs[k])
          rw [part_set xs k hlt] at hs
          have hfz := hok.frozenAt k
          have hce : ∃ u, wr.cell? ⟨w.heap.size, k, none⟩ = some u := by
            rw [hok.cellAt k (by omega)]
            have hlen : k < (part xs k).length := by unfold part; simp [scs]; omega
            exact ⟨_, List.getElem?_eq_getElem hlen⟩
          obtain ⟨u0, hce⟩ := hce
          obtain ⟨y, hy⟩ : ∃ y, xs[k] = y := ⟨_, rfl⟩
          rw [hy] at hc hs
          clear hy
          have hbw : ¬ b = w.heap.size := by omega
          go_wp2_with fail
          go_roundg (xs.length - (k + 1))
          case measure => have := HG.out; omega
          case rel => exact ⟨k + 1, by omega, by go_num, hs.1, hbk.grown hs.2 hbk.size (fun j hj => by cases hj; exact Nat.le_refl _)⟩
        · rw [part_all xs k hlt] at hok
          go_wp2_with fail
          go_ret
          exact ⟨_, rfl, hok, hbk⟩

/-- A quoted string. -/
def Qs (x : ByteArray) : ByteArray := mk (quote x.data.toList)
theorem Qs_size (x : ByteArray) : (Qs x).size ≤ 5 * x.size + 3 := by
  have := quote_len x.data.toList
  have e : x.data.toList.length = x.size := by simp
  unfold Qs mk
  simp only [ByteArray.size, List.size_toArray]
  simp only [ByteArray.size] at e
  omega
def ln (xs : List ByteArray) : List UInt8 := line (xs.map (·.data.toList))
theorem join_line (xs : List ByteArray) : Lib.join ((xs.map Qs).map (·.data.toList)) [32] = ln xs := by
  have e : (xs.map Qs).map (·.data.toList) = xs.map (fun x => quote x.data.toList) := by
    rw [List.map_map]
    exact List.map_congr_left fun x _ => by simp [Qs, mk]
  rw [e]
  cases xs with
  | nil => rfl
  | cons x r =>
    rw [List.map_cons, Lib.join_cons]
    unfold ln
    rw [List.map_cons]
    show _ = quote x.data.toList ++ behind (r.map (·.data.toList))
    congr 1
    unfold Lib.joinTail behind
    rw [List.flatMap_map, List.map_map]
    rfl
theorem total_cons (x : ByteArray) (r : List ByteArray) : total (x :: r) = x.size + total r := by simp [total]
theorem behind_len (r : List ByteArray) : (behind (r.map (·.data.toList))).length ≤ 5 * total r + 4 * r.length := by
  induction r with
  | nil => simp [behind]
  | cons x r ih =>
    have h1 := quote_len x.data.toList
    have e : x.data.toList.length = x.size := by simp
    rw [total_cons]
    simp only [behind, List.map_cons, List.flatMap_cons, List.length_append, List.length_cons] at ih ⊢
    omega
theorem ln_len (xs : List ByteArray) : (ln xs).length ≤ 5 * total xs + 4 * xs.length := by
  cases xs with
  | nil => simp [ln, line]
  | cons x r =>
    have h1 := quote_len x.data.toList
    have h2 := behind_len r
    have e : x.data.toList.length = x.size := by simp
    rw [total_cons]
    simp only [ln, List.map_cons, line, List.length_append, List.length_cons]
    omega

set_option maxHeartbeats 1000000 in
/-- Join: the words, quoted, with single blanks between. -/
theorem join13_any (ao : Option Addr) (cap : Nat) (xs : List ByteArray) (w : World) (hx : HS w ao xs) (hn : xs.length ≤ 3000000) (ht : total xs ≤ 3000000) (hy : ∀ x ∈ xs, x.size ≤ 2000000) (m : Int) (hm : w.cell? ⟨0, 0, none⟩ = some (.int .i64 m)) :
    Calls Tryd.prog 13 #[.slice ao xs.length cap] w fun e w' => e = .returned (.string (mk (ln xs))) ∧ Below w.heap.size w w' := by
  obtain ⟨i0, hi, hz0, hz1, hz2⟩ := info_parts Tryd.info9
  rcases hx with rfl | ⟨b, off, rfl, hb, hcell⟩
  · go_enter Tryd.func13, Tryd.ntmps13
    go_wp2_with (at_make; refine wpList_make_full _ rfl _ _ 23 rfl w.heap.size 9 i0 (.string ⟨#[]⟩) 1 Tryd.underlying23 hi hz0 hz1 _ _ _ _ 0 rfl rfl rfl rfl (by rw [hz2]; omega) (by unfold maxLen; omega) (Nat.le_refl _) ?_)
    intro w1 ho hg
    go_wp2_with fail
    refine wp_loop_rounds 1 ?_
    rw [rounds_succ]
    go_wp2_with (go_at_call 26; refine (Tryd.strings_Join_none _ _ _ _).mono ?_; rintro e w' ⟨rfl, rfl⟩)
    go_ret
    exact ⟨rfl, (Below.refl _ _).grown hg (Nat.le_refl _) (fun k hk => by cases hk)⟩
  · have HC : Hid _ := hcell
    have HY : Hid _ := hy
    clear hcell hy
    have h0w : 0 < w.heap.size := World.block_lt_of_cell? _ _ hm
    have hln := ln_len xs
    have c26 : ∀ w1 : World, w1.ownsRow w.heap.size 9 1 (.slice (some ⟨w.heap.size, 0, none⟩) xs.length xs.length) xs.length (scs (xs.map Qs)) →
        Calls Tryd.prog 26 #[.slice (some ⟨w.heap.size, 0, none⟩) xs.length xs.length, .string ⟨#[32]⟩] w1 fun e w' => e = .returned (.string (mk (ln xs))) ∧ Below w1.heap.size w1 w' := fun w1 ho => by
      have := Tryd.strings_Join w.heap.size 0 xs.length (xs.map Qs) ⟨#[32]⟩ w1 (fun j x hx => by
          have := ho.cells (g := w.heap.size) rfl j (.string x) (by simp only [scs, List.getElem?_map] at hx ⊢; rw [hx]; rfl)
          rw [addr_add] at this
          rw [Nat.zero_add]
          exact this) (ho.lt _ rfl).2 (by simp; omega) (by simp) (by
          have e := join_line xs
          change (Lib.join _ [32]).length ≤ _
          rw [e]
          omega)
      have e := join_line xs
      change Calls Tryd.prog 26 _ w1 (fun e w' => e = .returned (.string ⟨(Lib.join _ [32]).toArray⟩) ∧ _) at this
      rw [e, List.length_map] at this
      exact this
    have C26 : Hid _ := c26
    clear c26 hln
    go_enter Tryd.func13, Tryd.ntmps13
    go_wp2_with (at_make; refine wpList_make_full _ rfl _ _ 23 rfl w.heap.size 9 i0 (.string ⟨#[]⟩) 1 Tryd.underlying23 hi hz0 hz1 _ _ _ _ xs.length rfl rfl rfl rfl (by rw [hz2]; omega) (by unfold maxLen; omega) (Nat.le_refl _) ?_)
    intro w1 ho hg
    have hb1 : Below w.heap.size w w1 := (Below.refl _ _).grown hg (Nat.le_refl _) (fun k hk => by cases hk)
    clear hg
    have ho1 : w1.ownsRow w.heap.size 9 1 (.slice (some ⟨w.heap.size, 0, none⟩) xs.length xs.length) xs.length (part (xs.map Qs) 0) := by
      rw [part_zero, List.length_map]
      rw [toList_madeCells_one] at ho
      exact ho
    clear ho
    go_wp2_with fail
    go_loopg [11] xs.length (fun g i wr => ∃ k : Nat, k + g = xs.length ∧ i = .int .i64 k ∧ wr.ownsRow w.heap.size 9 1 (.slice (some ⟨w.heap.size, 0, none⟩) xs.length xs.length) xs.length (part (xs.map Qs) k) ∧ Below w.heap.size w wr)
    case atStart => exact ⟨0, by omega, rfl, ho1, hb1⟩
    case round =>
      obtain ⟨k, hk, rfl, hok, hbk⟩ := hrel
      have HG : Hid _ := hk
      clear hk ho1 hb1
      by_cases hlt : k < xs.length
      · have hc := (hbk.cell (p := ⟨b, off + k, none⟩) hb).trans (HC.out k hlt)
        have hyk := HY.out xs[k] (List.getElem_mem hlt)
        have hmk := (hbk.cell (p := ⟨0, 0, none⟩) h0w).trans hm
        have c9 := quote_any xs[k] wr hyk m hmk
        have hps := part_set (xs.map Qs) k (by simpa using hlt)
        rw [List.getElem_map] at hps
        change Calls Tryd.prog 9 #[.string xs[k]] wr (fun e w' => e = .returned (.string (Qs xs[k])) ∧ _) at c9
        obtain ⟨y, hy⟩ : ∃ y, xs[k] = y := ⟨_, rfl⟩
        rw [hy] at hc c9 hps
        clear hy hyk
        obtain ⟨q, hq⟩ : ∃ q, Qs y = q := ⟨_, rfl⟩
        rw [hq] at c9 hps
        clear hq
        have HPS : Hid _ := hps
        clear hps
        have hbw : ¬ b = w.heap.size := by omega
        go_wp2_with (go_at_call 9; go_fit c9; rintro e w2 ⟨rfl, hb2⟩; refine Hid.out ?_)
        refine Lib.hid ?_
        have hok2 := ownsRow_below hok hb2
        have hs := hok2.stored k (.string q)
        rw [HPS.out] at hs
        have hfz := hok2.frozenAt k
        have hce : ∃ u, w2.cell? ⟨w.heap.size, k, none⟩ = some u := by
          rw [hok2.cellAt k (by omega)]
          have hlen : k < (part (xs.map Qs) k).length := by unfold part; simp [scs]; omega
          exact ⟨_, List.getElem?_eq_getElem hlen⟩
        obtain ⟨u0, hce⟩ := hce
        have hbk2 : Below w.heap.size w w2 := hbk.trans (hb2.mono hbk.size)
        clear c9 hok hok2 hb2
        go_wp2_with fail
        go_roundg (xs.length - (k + 1))
        case measure => have := HG.out; omega
        case rel => exact ⟨k + 1, by omega, by go_num, hs.1, hbk2.grown hs.2 hbk2.size (fun j hj => by cases hj; exact Nat.le_refl _)⟩
      · rw [part_all (xs.map Qs) k (by simpa using hlt)] at hok
        go_wp2_with (go_at_call 26; go_fit (C26.out _ hok); rintro e w2 ⟨rfl, hb2⟩)
        go_ret
        exact ⟨rfl, hbk.trans (hb2.mono hbk.size)⟩
end Go.Proofs.Qxb6600464aDoor
