/-
  zzStringsEqual, zzBytes_FnJoinOfConcatenation; appending a whole row.
-/
import Derived.Test.Qxb6600464aDoorStrs
import Derived.Laws.AppendOwnNone
namespace Go.Proofs.Qxb6600464aDoor
open Go.RowKit Sw

set_option maxHeartbeats 1000000 in
/-- zzStringsEqual at two slices with the same strings. -/
theorem equal14_same (ao bo : Option Addr) (ca cb : Nat) (xs : List ByteArray) (w : World) (hx : HS w ao xs) (hy : HS w bo xs) (hn : xs.length ≤ 100000000) :
    Calls Tryd.prog 14 #[.slice ao xs.length ca, .slice bo xs.length cb] w fun e w' => e = .returned (.bool true) ∧ Below w.heap.size w w' := by
  by_cases h0 : xs = []
  · subst h0
    go_enter Tryd.func14, Tryd.ntmps14
    go_wp2_with fail
    refine wp_loop_rounds 1 ?_
    rw [rounds_succ]
    go_wp2_with fail
    go_ret
    exact ⟨rfl, Below.refl _ _⟩
  · obtain ⟨b, off, rfl, _, hcell⟩ := hx.resolve_left h0
    obtain ⟨b2, off2, rfl, _, hcell2⟩ := hy.resolve_left h0
    have HC : Hid _ := hcell
    have HC2 : Hid _ := hcell2
    clear hcell hcell2 hx hy h0
    have hnn : ((xs.length : Int) != (xs.length : Int)) = false := by simp
    go_enter Tryd.func14, Tryd.ntmps14
    go_wp2_with fail
    go_loopg [5] xs.length (fun g i wr => ∃ k : Nat, k + g = xs.length ∧ i = .int .i64 k ∧ ∃ q, wr = w.drewN q)
    case atStart => exact ⟨0, by omega, rfl, 0, rfl⟩
    case round =>
      obtain ⟨k, hk, rfl, q, rfl⟩ := hrel
      have HG : Hid _ := hk
      clear hk
      by_cases hlt : k < xs.length
      · have hc := HC.out k hlt
        have hc2 := HC2.out k hlt
        obtain ⟨y, hy⟩ : ∃ y, xs[k] = y := ⟨_, rfl⟩
        rw [hy] at hc hc2
        clear hy
        have hki : (k : Int) < (xs.length : Int) := by omega
        have hci : (w.drewN q).cell? ⟨b, off + k, none⟩ = some (.string y) := by rw [World.cell?_drewN]; exact hc
        have hci2 : (w.drewN q).cell? ⟨b2, off2 + k, none⟩ = some (.string y) := by rw [World.cell?_drewN]; exact hc2
        go_wp2_with fail
        go_quiet (fail)
        go_wp2_with fail
        go_roundg (xs.length - (k + 1))
        case measure => have := HG.out; omega
        case rel => exact ⟨k + 1, by omega, by go_num, q + nq, rfl⟩
      · go_wp2_with fail
        go_ret
        exact ⟨rfl, below_drewNg w q⟩

set_option maxHeartbeats 4000000 in
/-- zzBytes_FnJoinOfConcatenation: whatever it answers; where it says yes, the lengths are small. -/
theorem bytes15_any (ao bo : Option Addr) (ca cb : Nat) (xs ys : List ByteArray) (w : World) (hx : HS w ao xs) (hy : HS w bo ys) (hn : xs.length ≤ maxLen) (hm : ys.length ≤ maxLen) :
    Calls Tryd.prog 15 #[.slice ao xs.length ca, .slice bo ys.length cb] w fun e w' => ∃ b, e = .returned (.bool b) ∧ (b = true → xs.length ≤ 1048576 ∧ total xs ≤ 1048576 ∧ ys.length ≤ 1048576 ∧ total ys ≤ 1048576) ∧ w' = w := by
  unfold maxLen at hn hm
  by_cases h1 : xs.length ≤ 1048576
  · rcases hx with rfl | ⟨b, off, rfl, hb, hcell⟩
    · have HZ1 : Hid (0 = ([] : List ByteArray).length + total []) := by show 0 = _; simp [total]
      rcases hy with rfl | ⟨b2, off2, rfl, hb2, hcell2⟩
      · go_enter Tryd.func15, Tryd.ntmps15
        go_wp2_with fail
        refine wp_loop_rounds 1 ?_
        rw [rounds_succ]
        go_wp2_with fail
        refine wp_loop_rounds 1 ?_
        rw [rounds_succ]
        go_wp2_with fail
        go_ret
        refine ⟨_, rfl, fun _ => ⟨by have := HZ1.out; omega, by have := HZ1.out; omega, by simp, by simp [total]⟩, rfl⟩
      · have HD : Hid _ := hcell2
        clear hcell2
        go_enter Tryd.func15, Tryd.ntmps15
        go_wp2_with fail
        refine wp_loop_rounds 1 ?_
        rw [rounds_succ]
        by_cases hyl : ys.length ≤ 1048576
        · go_wp2_with fail
          go_loopg [5, 7] ys.length (fun g n i wr2 => ∃ k : Nat, k + g = ys.length ∧ i = .int .i64 k ∧ (∃ zz : Nat, n = .int .i64 zz ∧ zz = 0 + ys.length + total (ys.take k) ∧ zz ≤ 1048576) ∧ wr2 = w)
          case atStart => exact ⟨0, by omega, rfl, ⟨0 + ys.length, by first | rfl | go_num | simp, by simp [total], by omega⟩, rfl⟩
          case round =>
            obtain ⟨k2, hk2, rfl, ⟨z2, rfl, hz2, hz22⟩, rfl⟩ := hrel
            have HG2 : Hid _ := hk2
            have HZ2 : Hid _ := hz2
            clear hk2 hz2
            by_cases hlt2 : k2 < ys.length
            · have hc2 := HD.out k2 hlt2
              have HT2 : Hid _ := total_take ys k2 hlt2
              obtain ⟨y, hy⟩ : ∃ y, ys[k2] = y := ⟨_, rfl⟩
              rw [hy] at hc2
              have HY2 : Hid _ := hy
              clear hy
              by_cases hy1 : y.size ≤ 1048576
              · by_cases hy2 : z2 + y.size ≤ 1048576
                · go_wp2_with fail
                  go_roundg (ys.length - (k2 + 1))
                  case measure => have := HG2.out; omega
                  case rel => exact ⟨k2 + 1, by omega, by go_num, ⟨z2 + y.size, by go_num, by rw [HT2.out, HY2.out, HZ2.out]; omega, hy2⟩, rfl⟩
                · go_wp2_with fail
                  go_ret
                  exact ⟨_, rfl, (fun h => absurd h (by decide)), rfl⟩
              · go_wp2_with fail
                go_ret
                exact ⟨_, rfl, (fun h => absurd h (by decide)), rfl⟩
            · go_wp2_with fail
              go_ret
              have e2 := HZ2.out
              rw [total_all ys k2 hlt2] at e2
              have e1 := HZ1.out
              exact ⟨_, rfl, fun _ => ⟨by omega, by omega, by omega, by omega⟩, rfl⟩
        · go_wp2_with fail
          go_ret
          exact ⟨_, rfl, (fun h => absurd h (by decide)), rfl⟩
    · rcases hy with rfl | ⟨b2, off2, rfl, hb2, hcell2⟩
      · have HC : Hid _ := hcell
        clear hcell
        go_enter Tryd.func15, Tryd.ntmps15
        go_wp2_with fail
        go_loopg [5, 6] xs.length (fun g n i wr => ∃ k : Nat, k + g = xs.length ∧ i = .int .i64 k ∧ (∃ z : Nat, n = .int .i64 z ∧ z = xs.length + total (xs.take k) ∧ z ≤ 1048576) ∧ wr = w)
        case atStart => exact ⟨0, by omega, rfl, ⟨xs.length, rfl, by simp [total], h1⟩, rfl⟩
        case round =>
          obtain ⟨k, hk, rfl, ⟨z, rfl, hz, hz2⟩, rfl⟩ := hrel
          have HG : Hid _ := hk
          have HZ : Hid _ := hz
          clear hk hz
          by_cases hlt : k < xs.length
          · have hc := HC.out k hlt
            have HT : Hid _ := total_take xs k hlt
            obtain ⟨y, hy⟩ : ∃ y, xs[k] = y := ⟨_, rfl⟩
            rw [hy] at hc
            have HY : Hid _ := hy
            clear hy
            by_cases hy1 : y.size ≤ 1048576
            · by_cases hy2 : z + y.size ≤ 1048576
              · go_wp2_with fail
                go_roundg (xs.length - (k + 1))
                case measure => have := HG.out; omega
                case rel => exact ⟨k + 1, by omega, by go_num, ⟨z + y.size, by go_num, by rw [HT.out, HY.out, HZ.out]; omega, hy2⟩, rfl⟩
              · go_wp2_with fail
                go_ret
                exact ⟨_, rfl, (fun h => absurd h (by decide)), rfl⟩
            · go_wp2_with fail
              go_ret
              exact ⟨_, rfl, (fun h => absurd h (by decide)), rfl⟩
          · have hz1 := HZ.out
            rw [total_all xs k hlt] at hz1
            have HZ1 : Hid _ := hz1
            clear hz1
            go_wp2_with fail
            refine wp_loop_rounds 1 ?_
            rw [rounds_succ]
            go_wp2_with fail
            go_ret
            refine ⟨_, rfl, fun _ => ⟨by have := HZ1.out; omega, by have := HZ1.out; omega, by simp, by simp [total]⟩, rfl⟩
      · have HD : Hid _ := hcell2
        clear hcell2
        have HC : Hid _ := hcell
        clear hcell
        go_enter Tryd.func15, Tryd.ntmps15
        go_wp2_with fail
        go_loopg [5, 6] xs.length (fun g n i wr => ∃ k : Nat, k + g = xs.length ∧ i = .int .i64 k ∧ (∃ z : Nat, n = .int .i64 z ∧ z = xs.length + total (xs.take k) ∧ z ≤ 1048576) ∧ wr = w)
        case atStart => exact ⟨0, by omega, rfl, ⟨xs.length, rfl, by simp [total], h1⟩, rfl⟩
        case round =>
          obtain ⟨k, hk, rfl, ⟨z, rfl, hz, hz2⟩, rfl⟩ := hrel
          have HG : Hid _ := hk
          have HZ : Hid _ := hz
          clear hk hz
          by_cases hlt : k < xs.length
          · have hc := HC.out k hlt
            have HT : Hid _ := total_take xs k hlt
            obtain ⟨y, hy⟩ : ∃ y, xs[k] = y := ⟨_, rfl⟩
            rw [hy] at hc
            have HY : Hid _ := hy
            clear hy
            by_cases hy1 : y.size ≤ 1048576
            · by_cases hy2 : z + y.size ≤ 1048576
              · go_wp2_with fail
                go_roundg (xs.length - (k + 1))
                case measure => have := HG.out; omega
                case rel => exact ⟨k + 1, by omega, by go_num, ⟨z + y.size, by go_num, by rw [HT.out, HY.out, HZ.out]; omega, hy2⟩, rfl⟩
              · go_wp2_with fail
                go_ret
                exact ⟨_, rfl, (fun h => absurd h (by decide)), rfl⟩
            · go_wp2_with fail
              go_ret
              exact ⟨_, rfl, (fun h => absurd h (by decide)), rfl⟩
          · have hz1 := HZ.out
            rw [total_all xs k hlt] at hz1
            have HZ1 : Hid _ := hz1
            clear hz1
            by_cases hyl : ys.length ≤ 1048576
            · by_cases hyz : z + ys.length ≤ 1048576
              · go_wp2_with fail
                go_loopg [5, 7] ys.length (fun g n i wr2 => ∃ k : Nat, k + g = ys.length ∧ i = .int .i64 k ∧ (∃ zz : Nat, n = .int .i64 zz ∧ zz = z + ys.length + total (ys.take k) ∧ zz ≤ 1048576) ∧ wr2 = wr)
                case atStart => exact ⟨0, by omega, rfl, ⟨z + ys.length, by first | rfl | go_num | simp, by simp [total], by omega⟩, rfl⟩
                case round =>
                  obtain ⟨k2, hk2, rfl, ⟨z2, rfl, hz2, hz22⟩, rfl⟩ := hrel
                  have HG2 : Hid _ := hk2
                  have HZ2 : Hid _ := hz2
                  clear hk2 hz2
                  by_cases hlt2 : k2 < ys.length
                  · have hc2 := HD.out k2 hlt2
                    have HT2 : Hid _ := total_take ys k2 hlt2
                    obtain ⟨y, hy⟩ : ∃ y, ys[k2] = y := ⟨_, rfl⟩
                    rw [hy] at hc2
                    have HY2 : Hid _ := hy
                    clear hy
                    by_cases hy1 : y.size ≤ 1048576
                    · by_cases hy2 : z2 + y.size ≤ 1048576
                      · go_wp2_with fail
                        go_roundg (ys.length - (k2 + 1))
                        case measure => have := HG2.out; omega
                        case rel => exact ⟨k2 + 1, by omega, by go_num, ⟨z2 + y.size, by go_num, by rw [HT2.out, HY2.out, HZ2.out]; omega, hy2⟩, rfl⟩
                      · go_wp2_with fail
                        go_ret
                        exact ⟨_, rfl, (fun h => absurd h (by decide)), rfl⟩
                    · go_wp2_with fail
                      go_ret
                      exact ⟨_, rfl, (fun h => absurd h (by decide)), rfl⟩
                  · go_wp2_with fail
                    go_ret
                    have e2 := HZ2.out
                    rw [total_all ys k2 hlt2] at e2
                    have e1 := HZ1.out
                    exact ⟨_, rfl, fun _ => ⟨by omega, by omega, by omega, by omega⟩, rfl⟩
              · go_wp2_with fail
                go_ret
                exact ⟨_, rfl, (fun h => absurd h (by decide)), rfl⟩
            · go_wp2_with fail
              go_ret
              exact ⟨_, rfl, (fun h => absurd h (by decide)), rfl⟩
  · go_enter Tryd.func15, Tryd.ntmps15
    go_wp2_with fail
    go_ret
    exact ⟨_, rfl, (fun h => absurd h (by decide)), rfl⟩

/-- 'dst = append(dst, src...)': both rows of strings of the call's own. -/
theorem wpList_appAll {P : Program} {t e : TypeId} (ht : P.underlying t = some (.slice e)) (hI : (P.info? e).map (fun i => (i.zero, i.size, i.bytes)) = some (some (.string ⟨#[]⟩), 1, 16)) (w : World) {ops : Array Oper} {rest : List Oper} {o : Oper} {a : Act} {Q : Exit → Act → World → Prop}
    (hgd : o.guard = none) (s x : Operand) (ho : o.op = .call { callee := .builtin .append, args := #[s, x], argTypes := #[t, t] })
    (B B2 : Nat) (v v2 : Value) (n m : Nat) (l l2 : List ByteArray) (hs : a.eval s = v) (hown : w.ownsRow B e 1 v n (scs l)) (hx : a.eval x = v2) (hsrc : w.ownsRow B2 e 1 v2 m (scs l2)) (hB : B ≤ w.heap.size) (hn : n + m ≤ 1000000000000)
    (h : ∀ v' w', w'.ownsRow B e 1 v' (n + m) (scs (l ++ l2)) → w.grownBy w' v.ownBlock → wpList P ops Q rest (a.put o.dst v') w') :
    wpList P ops Q (o :: rest) a w := by
  obtain ⟨i0, hi, hz0, hz1, hz2⟩ := info_parts hI
  have hl := hsrc.1
  rw [scs_length, Nat.mul_one] at hl
  have hc := fun g hg => hsrc.cells (g := g) hg
  rcases hsrc.2 with ⟨rfl, rfl⟩ | ⟨g, cap, cur, rfl, _, _, _, _, _, _⟩
  · have e2 : l2 = [] := List.length_eq_zero_iff.1 hl
    subst e2
    refine wpList_append_own_none hgd s x t ho B e i0 1 ht hi v n _ hs hown hx (h v w (by simpa using hown) (World.grownBy.refl _ _))
  · refine wpList_append_own _ hgd s x t ho B e i0 (.string ⟨#[]⟩) 1 16 ht hi hz0 hz1 hz2 rfl (by decide) v n _ hs hown ⟨g, 0, none⟩ m cap (scs l2) hx (by rw [scs_length, hl, Nat.mul_one]) (hc g rfl) ?_ (by unfold maxLen; omega) (by omega) hB ?_
    · intro u hu
      simp only [scs, List.mem_map] at hu
      obtain ⟨y, _, rfl⟩ := hu
      rfl
    · intro v' w' h1 h2 _
      exact h v' w' (by simpa [scs] using h1) h2

/-- An owned row of strings, as a slice that holds them. -/
theorem HS_of_own {w : World} {B n : Nat} {v : Value} {xs : List ByteArray} (h : w.ownsRow B 9 1 v n (scs xs)) : ∃ ao cap, v = .slice ao xs.length cap ∧ n = xs.length ∧ HS w ao xs := by
  have hl := h.1
  rw [scs_length, Nat.mul_one] at hl
  have hc := fun g hg => h.cells (g := g) hg
  have hlt := h.lt
  rcases h.2 with ⟨rfl, rfl⟩ | ⟨g, cap, cur, rfl, _, _, _, _, _, _⟩
  · have e : xs = [] := List.length_eq_zero_iff.1 hl
    subst e
    exact ⟨none, 0, rfl, rfl, .inl rfl⟩
  · refine ⟨some ⟨g, 0, none⟩, cap, by rw [hl], hl.symm, .inr ⟨g, 0, rfl, (hlt g rfl).2, fun j hj => ?_⟩⟩
    have := hc g rfl j (.string xs[j]) (by simp [scs, hj])
    rw [addr_add] at this
    rw [Nat.zero_add]
    exact this
end Go.Proofs.Qxb6600464aDoor
