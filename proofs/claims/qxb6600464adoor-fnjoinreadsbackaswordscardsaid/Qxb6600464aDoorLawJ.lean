/-
  FnJoinReadsBackAsWords: the walk.
-/
import Derived.Test.Qxb6600464aDoorCat
namespace Go.Proofs.Qxb6600464aDoor
open Go.RowKit Sw

theorem mem_total {xs : List ByteArray} {x : ByteArray} (h : x ∈ xs) : x.size ≤ total xs := by
  induction xs with
  | nil => cases h
  | cons y r ih =>
    rw [total_cons]
    rcases List.mem_cons.1 h with rfl | h
    · omega
    · have := ih h; omega
theorem cell0_below {w w' : World} {m : Int} (hm : w.cell? ⟨0, 0, none⟩ = some (.int .i64 m)) (hb : Below w.heap.size w w') : w'.cell? ⟨0, 0, none⟩ = some (.int .i64 m) :=
  (hb.cell (p := ⟨0, 0, none⟩) (World.block_lt_of_cell? _ _ hm)).trans hm
theorem map_mk (xs : List ByteArray) : (xs.map (·.data.toList)).map mk = xs := by
  rw [List.map_map]
  exact (List.map_congr_left (g := id) fun x _ => rfl).trans (List.map_id xs)
theorem mk_toList (l : List UInt8) : (mk l).data.toList = l := by simp [mk]
theorem mk_size (l : List UInt8) : (mk l).size = l.length := by simp [mk, ByteArray.size]

set_option maxHeartbeats 1000000 in
theorem lawJ_any (ao : Option Addr) (cap : Nat) (xs : List ByteArray) (w : World) (hx : HS w ao xs) (hn : xs.length ≤ maxLen) (hnil : ao = none → xs = [] ∧ cap = 0) (m : Int) (hm : w.cell? ⟨0, 0, none⟩ = some (.int .i64 m)) :
    Calls Tryd.prog 4 #[.slice ao xs.length cap] w fun e w' => e = .returned (.bool true) ∧ Below w.heap.size w w' := by
  have c10 := bytes10_any ao cap xs w hx hn
  unfold maxLen at hn
  have HN : Hid _ := hnil
  clear hnil
  go_enter Tryd.func4, Tryd.ntmps4
  go_wp2_with (go_at_call 10; go_fit c10; rintro e w' ⟨b, rfl, hbt, rfl⟩; refine Hid.out ?_)
  refine Lib.hid ?_
  clear c10
  cases b with
  | false =>
    clear hbt
    go_wp2_with fail
    go_ret
    exact ⟨rfl, Below.refl _ _⟩
  | true =>
    obtain ⟨h1, h2⟩ := hbt rfl
    clear hbt
    by_cases h3 : xs.length ≤ 65536
    · have c11 := count11_any ao cap xs _ hx h1 h2
      go_wp2_with (go_at_call 11; go_fit c11; rintro e w' ⟨c, hc, rfl, rfl⟩; refine Hid.out ?_)
      refine Lib.hid ?_
      clear c11
      by_cases hcc : c ≤ 1048576
      · have c12 := clone12_any ao cap xs _ hx h1 HN.out
        go_wp2_with (go_at_call 12; go_fit c12; rintro e w1 ⟨v1, rfl, ho1, hb1⟩; refine Hid.out ?_)
        refine Lib.hid ?_
        clear c12
        obtain ⟨ao1, cap1, hv1, _, hs1⟩ := HS_of_own ho1
        rw [hv1]
        clear ho1 hv1
        have hm1 := cell0_below hm hb1
        have c13 := join13_any ao1 cap1 xs w1 hs1 (by omega) (by omega) (fun x hx => by have := mem_total hx; omega) m hm1
        have hll := ln_len xs
        have c8 : ∀ w2, Calls Tryd.prog 8 #[.string (mk (ln xs))] w2 fun e w' => ∃ v, e = .returned (.tuple #[v, .bool true]) ∧ w'.ownsRow w2.heap.size 9 1 v xs.length (scs xs) ∧ Below w2.heap.size w2 w' := fun w2 => by
          have := readWords_any (mk (ln xs)) w2 (xs.map (·.data.toList)) (by rw [mk_size]; omega) (by simp; omega) (mk_toList _)
          rw [map_mk, List.length_map] at this
          exact this
        obtain ⟨S, hS⟩ : ∃ S, mk (ln xs) = S := ⟨_, rfl⟩
        rw [hS] at c13 c8
        have C8 : Hid _ := c8
        clear hS hll c8
        go_wp2_with (first
          | (go_at_call 13; go_fit c13; rintro e w2 ⟨rfl, hb2⟩)
          | (go_at_call 8; go_fit (C8.out _); rintro e w3 ⟨v3, rfl, ho3, hb3⟩; refine Hid.out ?_))
        refine Lib.hid ?_
        clear c13
        obtain ⟨ao3, cap3, hv3, _, hs3⟩ := HS_of_own ho3
        rw [hv3]
        clear ho3 hv3
        have c14 := equal14_same ao3 ao1 cap3 cap1 xs w3 hs3 ((hs1.below hb2).below hb3) (by omega)
        go_wp2_with (go_at_call 14; go_fit c14; rintro e w4 ⟨rfl, hb4⟩)
        go_ret
        exact ⟨rfl, ((hb1.trans (hb2.mono hb1.size)).trans (hb3.mono (Nat.le_trans hb1.size hb2.size))).trans (hb4.mono (Nat.le_trans hb1.size (Nat.le_trans hb2.size hb3.size)))⟩
      · go_wp2_with fail
        go_ret
        exact ⟨rfl, Below.refl _ _⟩
    · go_wp2_with fail
      go_ret
      exact ⟨rfl, Below.refl _ _⟩
end Go.Proofs.Qxb6600464aDoor
