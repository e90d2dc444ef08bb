/-
  THE FUNCTIONS OVER SLICES OF STRINGS of seat b6605381aD, each by its contract.
-/
import Derived.Test.Qxb6605381aDoorModel
namespace Go.Proofs.Qxb6605381aDoor
open Go.RowKit Gl

theorem Tryd.info9 : (Tryd.prog.info? 9).map (fun i => (i.zero, i.size, i.bytes)) = some (some (.string ⟨#[]⟩), 1, 16) := by kernel_rfl
/-- strings as cells -/
def scs (l : List ByteArray) : List Value := l.map Value.string
theorem scs_length (l : List ByteArray) : (scs l).length = l.length := by simp [scs]
theorem addr_add (g j : Nat) : (⟨g, 0, none⟩ : Addr).add j = ⟨g, j, none⟩ := by
  unfold Addr.add
  by_cases h : j = 0
  · simp [h]
  · simp [h]
/-- A slice of strings: its address, and what its cells hold. -/
def HS (w : World) (ao : Option Addr) (xs : List ByteArray) : Prop :=
  xs = [] ∨ ∃ b off, ao = some ⟨b, off, none⟩ ∧ b < w.heap.size ∧ ∀ (j : Nat) (hj : j < xs.length), w.cell? ⟨b, off + j, none⟩ = some (.string xs[j])
theorem HS.below {w w' : World} {ao : Option Addr} {xs : List ByteArray} (h : HS w ao xs) (hb : Below w.heap.size w w') : HS w' ao xs := by
  rcases h with h | ⟨b, off, h1, h2, h3⟩
  · exact .inl h
  · exact .inr ⟨b, off, h1, Nat.lt_of_lt_of_le h2 hb.size, fun j hj => (hb.cell (p := ⟨b, off + j, none⟩) h2).trans (h3 j hj)⟩
def total (xs : List ByteArray) : Nat := (xs.map (·.size)).sum
theorem total_take (xs : List ByteArray) (k : Nat) (hk : k < xs.length) : total (xs.take (k + 1)) = total (xs.take k) + xs[k].size := by
  rw [List.take_succ_eq_append_getElem hk]
  unfold total
  rw [List.map_append, List.sum_append]
  simp
theorem total_all (xs : List ByteArray) (k : Nat) (hk : ¬ k < xs.length) : xs.take k = xs := List.take_of_length_le (by omega)
theorem ownsRow_below {w w' : World} {B : Nat} {e : TypeId} {sz : Nat} {v : Value} {n : Nat} {xs : List Value} (h : w.ownsRow B e sz v n xs) (hb : Below w.heap.size w w') : w'.ownsRow B e sz v n xs :=
  h.kept (row := none) ⟨hb.os, hb.tape, hb.output, hb.size, fun k hk _ => hb.block k hk⟩ (by
    cases hv : v.ownBlock with
    | none => exact .inl rfl
    | some k => exact .inr (by simp))

theorem set_mid (a : List Value) (b : Value) (r : List Value) (u : Value) (n : Nat) (h : a.length = n) : (a ++ b :: r).set n u = a ++ u :: r := by
  subst h
  simp
theorem rep_succ (n k : Nat) (h : k < n) (z : Value) : List.replicate (n - k) z = z :: List.replicate (n - (k + 1)) z := by
  rw [show n - k = (n - (k + 1)) + 1 by omega, List.replicate_succ]
/-- The first k are laid, the rest are empty. -/
def part (xs : List ByteArray) (k : Nat) : List Value := scs (xs.take k) ++ List.replicate (xs.length - k) (.string ⟨#[]⟩)
theorem part_zero (xs : List ByteArray) : part xs 0 = List.replicate xs.length (.string ⟨#[]⟩) := by simp [part, scs]
theorem part_all (xs : List ByteArray) (k : Nat) (h : ¬ k < xs.length) : part xs k = scs xs := by
  unfold part
  rw [List.take_of_length_le (by omega), show xs.length - k = 0 by omega]
  simp
theorem part_set (xs : List ByteArray) (k : Nat) (h : k < xs.length) : (part xs k).set k (.string xs[k]) = part xs (k + 1) := by
  unfold part
  rw [rep_succ xs.length k h, set_mid _ _ _ _ k (by simp [scs]; omega), List.take_succ_eq_append_getElem h]
  unfold scs
  rw [List.map_append, List.append_assoc]
  rfl

set_option maxHeartbeats 1000000 in
/-- cloneStrs: a row of the call's own with the same strings. -/
theorem clone17_some (a : Addr) (cap : Nat) (xs : List ByteArray) (w : World) (hx : HS w (some a) xs) (hn : xs.length ≤ 1048576) :
    Calls Tryd.prog 17 #[.slice (some a) xs.length cap] w fun e w' => e = .returned (sl w.heap.size xs.length) ∧ w'.ownsRow w.heap.size 9 1 (sl w.heap.size xs.length) xs.length (scs xs) ∧ Below w.heap.size w w' := by
    obtain ⟨i0, hi, hz0, hz1, hz2⟩ := info_parts Tryd.info9
    have he : ∀ (n : Nat) (w : World), (binOp .eql 24 (.slice (some a) n cap) (.slice none 0 0)).run Tryd.prog w = .ok (.bool false) w := fun _ _ => rfl
    have hcell : xs = [] ∨ ∃ b off, a = ⟨b, off, none⟩ ∧ b < w.heap.size ∧ ∀ (j : Nat) (hj : j < xs.length), w.cell? ⟨b, off + j, none⟩ = some (.string xs[j]) := by
      rcases hx with h | ⟨b, off, h1, h2⟩
      · exact .inl h
      · exact .inr ⟨b, off, Option.some.inj h1, h2⟩
    clear hx
    rcases hcell with rfl | ⟨b, off, rfl, hb, hcell⟩
    · go_enter Tryd.func17, Tryd.ntmps17
      go_wp2_with (at_make; refine wpList_make_full _ rfl _ _ 24 rfl w.heap.size 9 i0 (.string ⟨#[]⟩) 1 Tryd.underlying24 hi hz0 hz1 _ _ _ _ 0 rfl rfl rfl rfl (by rw [hz2]; omega) (by unfold maxLen; omega) (Nat.le_refl _) ?_)
      intro w1 ho hg
      rw [toList_madeCells_one] at ho
      go_wp2_with fail
      refine wp_loop_rounds 1 ?_
      rw [rounds_succ]
      go_wp2_with fail
      go_ret
      exact ⟨rfl, ho, (Below.refl _ _).grown hg (Nat.le_refl _) (fun k hk => by cases hk)⟩
    · have HC : Hid _ := hcell
      clear hcell
      go_enter Tryd.func17, Tryd.ntmps17
      go_wp2_with (at_make; refine wpList_make_full _ rfl _ _ 24 rfl w.heap.size 9 i0 (.string ⟨#[]⟩) 1 Tryd.underlying24 hi hz0 hz1 _ _ _ _ xs.length rfl rfl rfl rfl (by rw [hz2]; omega) (by unfold maxLen; omega) (Nat.le_refl _) ?_)
      intro w1 ho hg
      have hb1 : Below w.heap.size w w1 := (Below.refl _ _).grown hg (Nat.le_refl _) (fun k hk => by cases hk)
      clear hg
      have ho1 : w1.ownsRow w.heap.size 9 1 (.slice (some ⟨w.heap.size, 0, none⟩) xs.length xs.length) xs.length (part xs 0) := by
        rw [part_zero]
        rw [toList_madeCells_one] at ho
        exact ho
      clear ho
      go_wp2_with fail
      go_loopg [4] xs.length (fun g i wr => ∃ k : Nat, k + g = xs.length ∧ i = .int .i64 k ∧ wr.ownsRow w.heap.size 9 1 (.slice (some ⟨w.heap.size, 0, none⟩) xs.length xs.length) xs.length (part xs k) ∧ Below w.heap.size w wr)
      case atStart => exact ⟨0, by omega, rfl, ho1, hb1⟩
      case round =>
        obtain ⟨k, hk, rfl, hok, hbk⟩ := hrel
        have HG : Hid _ := hk
        clear hk ho1 hb1
        by_cases hlt : k < xs.length
        · have hc := (hbk.cell (p := ⟨b, off + k, none⟩) hb).trans (HC.out k hlt)
          have hs := hok.stored k (.string xs[k])
          rw [part_set xs k hlt] at hs
          have hfz := hok.frozenAt k
          have hce : ∃ u, wr.cell? ⟨w.heap.size, k, none⟩ = some u := by
            rw [hok.cellAt k (by omega)]
            have hlen : k < (part xs k).length := by unfold part; simp [scs]; omega
            exact ⟨_, List.getElem?_eq_getElem hlen⟩
          obtain ⟨u0, hce⟩ := hce
          obtain ⟨y, hy⟩ : ∃ y, xs[k] = y := ⟨_, rfl⟩
          rw [hy] at hc hs
          clear hy
          have hbw : ¬ b = w.heap.size := by omega
          go_wp2_with fail
          go_roundg (xs.length - (k + 1))
          case measure => have := HG.out; omega
          case rel => exact ⟨k + 1, by omega, by go_num, hs.1, hbk.grown hs.2 hbk.size (fun j hj => by cases hj; exact Nat.le_refl _)⟩
        · rw [part_all xs k hlt] at hok
          go_wp2_with fail
          go_ret
          exact ⟨rfl, hok, hbk⟩


theorem clone17_nil (w : World) : Calls Tryd.prog 17 #[.slice none 0 0] w fun e w' => e = .returned (.slice none 0 0) ∧ w' = w := by
  have he : ∀ w : World, (binOp .eql 24 (.slice none 0 0) (.slice none 0 0)).run Tryd.prog w = .ok (.bool true) w := fun _ => rfl
  go_enter Tryd.func17, Tryd.ntmps17
  go_wp2_with fail
  go_ret
  exact ⟨rfl, rfl⟩

set_option maxHeartbeats 1000000 in
/-- zzBytes_FnMatchSelfAndBrackets: where it says yes, the lengths are small. -/
theorem bytes21_any (nm : ByteArray) (ao : Option Addr) (cap : Nat) (xs : List ByteArray) (w : World) (hx : HS w ao xs) (hnm : nm.size ≤ maxLen) (hn : xs.length ≤ maxLen) :
    Calls Tryd.prog 21 #[.string nm, .slice ao xs.length cap] w fun e w' => ∃ b, e = .returned (.bool b) ∧ (b = true → xs.length ≤ 1048576 ∧ total xs ≤ 1048576) ∧ w' = w := by
  unfold maxLen at hn hnm
  by_cases h0 : nm.size ≤ 1048576
  · by_cases h1 : xs.length ≤ 1048576
    · by_cases h2 : nm.size + xs.length ≤ 1048576
      · rcases hx with rfl | ⟨b, off, rfl, hb, hcell⟩
        · go_enter Tryd.func21, Tryd.ntmps21
          go_wp2_with fail
          refine wp_loop_rounds 1 ?_
          rw [rounds_succ]
          go_wp2_with fail
          go_ret
          exact ⟨_, rfl, fun _ => ⟨by simp, by simp [total]⟩, rfl⟩
        · have HC : Hid _ := hcell
          clear hcell
          go_enter Tryd.func21, Tryd.ntmps21
          go_wp2_with fail
          go_loopg [5, 6] xs.length (fun g n i wr => ∃ k : Nat, k + g = xs.length ∧ i = .int .i64 k ∧ (∃ z : Nat, n = .int .i64 z ∧ z = nm.size + xs.length + total (xs.take k) ∧ z ≤ 1048576) ∧ wr = w)
          case atStart => exact ⟨0, by omega, rfl, ⟨nm.size + xs.length, by go_num, by simp [total], h2⟩, rfl⟩
          case round =>
            obtain ⟨k, hk, rfl, ⟨z, rfl, hz, hz2⟩, rfl⟩ := hrel
            have HG : Hid _ := hk
            have HZ : Hid _ := hz
            clear hk hz
            by_cases hlt : k < xs.length
            · have hc := HC.out k hlt
              have HT : Hid _ := total_take xs k hlt
              obtain ⟨y, hy⟩ : ∃ y, xs[k] = y := ⟨_, rfl⟩
              rw [hy] at hc
              have HY : Hid _ := hy
              clear hy
              by_cases hy1 : y.size ≤ 1048576
              · by_cases hy2 : z + y.size ≤ 1048576
                · go_wp2_with fail
                  go_roundg (xs.length - (k + 1))
                  case measure => have := HG.out; omega
                  case rel => exact ⟨k + 1, by omega, by go_num, ⟨z + y.size, by go_num, by rw [HT.out, HY.out, HZ.out]; omega, hy2⟩, rfl⟩
                · go_wp2_with fail
                  go_ret
                  exact ⟨_, rfl, (fun h => absurd h (by decide)), rfl⟩
              · go_wp2_with fail
                go_ret
                exact ⟨_, rfl, (fun h => absurd h (by decide)), rfl⟩
            · go_wp2_with fail
              go_ret
              refine ⟨_, rfl, fun _ => ⟨h1, ?_⟩, rfl⟩
              have := HZ.out
              rw [total_all xs k hlt] at this
              omega
      · go_enter Tryd.func21, Tryd.ntmps21
        go_wp2_with fail
        go_ret
        exact ⟨_, rfl, (fun h => absurd h (by decide)), rfl⟩
    · go_enter Tryd.func21, Tryd.ntmps21
      go_wp2_with fail
      go_ret
      exact ⟨_, rfl, (fun h => absurd h (by decide)), rfl⟩
  · go_enter Tryd.func21, Tryd.ntmps21
    go_wp2_with fail
    go_ret
    exact ⟨_, rfl, (fun h => absurd h (by decide)), rfl⟩

set_option maxHeartbeats 1000000 in
/-- strsBytes: some number. -/
theorem strs14_any (ao : Option Addr) (cap : Nat) (xs : List ByteArray) (w : World) (hx : HS w ao xs) (hn : xs.length ≤ 1048576) (ht : total xs ≤ 1048576) :
    Calls Tryd.prog 14 #[.slice ao xs.length cap] w fun e w' => ∃ c : Nat, c ≤ 100000000 ∧ e = .returned (.int .i64 c) ∧ w' = w := by
  rcases hx with rfl | ⟨b, off, rfl, hb, hcell⟩
  · go_enter Tryd.func14, Tryd.ntmps14
    go_wp2_with fail
    refine wp_loop_rounds 1 ?_
    rw [rounds_succ]
    go_wp2_with fail
    go_ret
    exact ⟨0, by omega, rfl, rfl⟩
  · have HC : Hid _ := hcell
    clear hcell
    have hty : ∀ k (hk : k < xs.length), total (xs.take k) + xs[k].size ≤ 1048576 := fun k hk => by
      rw [← total_take xs k hk]
      have : total xs = total (xs.take (k + 1)) + total (xs.drop (k + 1)) := by
        unfold total
        rw [← List.sum_append, ← List.map_append, List.take_append_drop]
      omega
    have HT : Hid _ := hty
    clear hty
    go_enter Tryd.func14, Tryd.ntmps14
    go_wp2_with fail
    go_loopg [3, 4] xs.length (fun g n i wr => ∃ k : Nat, k + g = xs.length ∧ i = .int .i64 k ∧ (∃ z : Nat, n = .int .i64 z ∧ z = 16 * xs.length + total (xs.take k)) ∧ wr = w)
    case atStart => exact ⟨0, by omega, rfl, ⟨16 * xs.length, by go_num, by simp [total]⟩, rfl⟩
    case round =>
      obtain ⟨k, hk, rfl, ⟨z, rfl, hz⟩, rfl⟩ := hrel
      have HG : Hid _ := hk
      have hzb : z ≤ 30000000 := by
        have : total xs = total (xs.take k) + total (xs.drop k) := by
          unfold total
          rw [← List.sum_append, ← List.map_append, List.take_append_drop]
        omega
      have HZ : Hid _ := hz
      clear hk hz
      by_cases hlt : k < xs.length
      · have hc := HC.out k hlt
        have hy3 := HT.out k hlt
        have HT1 : Hid _ := total_take xs k hlt
        obtain ⟨y, hy⟩ : ∃ y, xs[k] = y := ⟨_, rfl⟩
        rw [hy] at hc hy3
        have HY : Hid _ := hy
        clear hy
        have hy4 : y.size ≤ 1048576 := by omega
        clear hy3
        by_cases hy2 : z + y.size ≤ 1048576
        · go_wp2_with fail
          go_roundg (xs.length - (k + 1))
          case measure => have := HG.out; omega
          case rel => exact ⟨k + 1, by omega, by go_num, ⟨z + y.size, by go_num, by rw [HT1.out, HY.out, HZ.out]; omega⟩, rfl⟩
        · go_wp2_with fail
          go_ret
          exact ⟨1048577, by omega, rfl, rfl⟩
      · go_wp2_with fail
        go_ret
        exact ⟨z, by omega, rfl, rfl⟩

set_option maxHeartbeats 1000000 in
/-- textsFit: where it says yes, each text is small. -/
theorem fit15_any (ao : Option Addr) (cap : Nat) (xs : List ByteArray) (w : World) (hx : HS w ao xs) (hn : xs.length ≤ 1048576) (ht : ∀ x ∈ xs, x.size ≤ 1048576) :
    Calls Tryd.prog 15 #[.slice ao xs.length cap] w fun e w' => ∃ b, e = .returned (.bool b) ∧ w' = w := by
  rcases hx with rfl | ⟨b, off, rfl, hb, hcell⟩
  · go_enter Tryd.func15, Tryd.ntmps15
    go_wp2_with fail
    refine wp_loop_rounds 1 ?_
    rw [rounds_succ]
    go_wp2_with fail
    go_ret
    exact ⟨_, rfl, rfl⟩
  · have HC : Hid _ := hcell
    have HT : Hid _ := ht
    clear hcell ht
    go_enter Tryd.func15, Tryd.ntmps15
    go_wp2_with fail
    go_loopg [3] xs.length (fun g i wr => ∃ k : Nat, k + g = xs.length ∧ i = .int .i64 k ∧ wr = w)
    case atStart => exact ⟨0, by omega, rfl, rfl⟩
    case round =>
      obtain ⟨k, hk, rfl, rfl⟩ := hrel
      have HG : Hid _ := hk
      clear hk
      by_cases hlt : k < xs.length
      · have hc := HC.out k hlt
        have hy3 := HT.out xs[k] (List.getElem_mem hlt)
        obtain ⟨y, hy⟩ : ∃ y, xs[k] = y := ⟨_, rfl⟩
        rw [hy] at hc hy3
        clear hy
        by_cases hy2 : y.size ≤ 65536
        · go_wp2_with fail
          go_roundg (xs.length - (k + 1))
          case measure => have := HG.out; omega
          case rel => exact ⟨k + 1, by omega, by go_num, rfl⟩
        · go_wp2_with fail
          go_ret
          exact ⟨_, rfl, rfl⟩
      · go_wp2_with fail
        go_ret
        exact ⟨_, rfl, rfl⟩

set_option maxHeartbeats 1000000 in
/-- trailingStars: a number not above the length. -/
theorem stars22_any (ao : Option Addr) (cap : Nat) (xs : List ByteArray) (w : World) (hx : HS w ao xs) (hn : xs.length ≤ 1048576) :
    Calls Tryd.prog 22 #[.slice ao xs.length cap] w fun e w' => ∃ t : Nat, t ≤ xs.length ∧ e = .returned (.int .i64 t) ∧ w' = w := by
  rcases hx with rfl | ⟨b, off, rfl, hb, hcell⟩
  · go_enter Tryd.func22, Tryd.ntmps22
    go_wp2_with fail
    refine wp_loop_rounds 1 ?_
    rw [rounds_succ]
    go_wp2_with fail
    go_ret
    exact ⟨0, by omega, rfl, rfl⟩
  · have HC : Hid _ := hcell
    clear hcell
    go_enter Tryd.func22, Tryd.ntmps22
    go_wp2_with fail
    go_loopg [3] xs.length (fun g i wr => ∃ k : Nat, k + g = xs.length ∧ i = .int .i64 k ∧ wr = w)
    case atStart => exact ⟨0, by omega, rfl, rfl⟩
    case round =>
      obtain ⟨k, hk, rfl, rfl⟩ := hrel
      have HG : Hid _ := hk
      clear hk
      by_cases hlt : k < xs.length
      · obtain ⟨j, hj⟩ : ∃ j, j + k + 1 = xs.length := ⟨xs.length - 1 - k, by omega⟩
        have hjl : j < xs.length := by omega
        have hc := HC.out j hjl
        obtain ⟨y, hy⟩ : ∃ y, xs[j] = y := ⟨_, rfl⟩
        rw [hy] at hc
        clear hy
        have hji : ((xs.length : Int) - 1 - (k : Int)) = (j : Int) := by omega
        have HJ : Hid _ := hj
        clear hj
        cases hb : (y.toList == [42]) with
        | true =>
          go_wp2_with fail
          go_roundg (xs.length - (k + 1))
          case measure => have := HG.out; omega
          case rel => exact ⟨k + 1, by omega, by go_num, rfl⟩
        | false =>
          go_wp2_with fail
          go_ret
          exact ⟨k, by omega, rfl, rfl⟩
      · have hd : decide ((k : Int) < (xs.length : Int)) = false := by simp; omega
        go_wp2_with fail
        go_ret
        exact ⟨k, by have := HG.out; omega, rfl, rfl⟩
end Go.Proofs.Qxb6605381aDoor
