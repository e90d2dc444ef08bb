/-
  FnMatchSelfAndBrackets: the walk.
-/
import Derived.Test.Qxb6605381aDoorMatch
namespace Go.Proofs.Qxb6605381aDoor
open Go.RowKit Gl

theorem mem_total {xs : List ByteArray} {x : ByteArray} (h : x ∈ xs) : x.size ≤ total xs := by
  induction xs with
  | nil => cases h
  | cons y r ih =>
    have e : total (y :: r) = y.size + total r := by simp [total]
    rw [e]
    rcases List.mem_cons.1 h with rfl | h
    · omega
    · have := ih h; omega

theorem keep {W w' : World} (hb : Below W.heap.size W w') {b o : Nat} {v : Value} (h : W.cell? ⟨b, o, none⟩ = some v) : w'.cell? ⟨b, o, none⟩ = some v :=
  (hb.cell (p := ⟨b, o, none⟩) (World.block_lt_of_cell? _ _ h)).trans h
/-- The four cells of a Pattern, the two of a Key. -/
def P4 (w : World) (b : Nat) (v0 v1 v2 v3 : Value) : Prop := w.cell? ⟨b, 0, none⟩ = some v0 ∧ w.cell? ⟨b, 1, none⟩ = some v1 ∧ w.cell? ⟨b, 2, none⟩ = some v2 ∧ w.cell? ⟨b, 3, none⟩ = some v3
def K2 (w : World) (b : Nat) (v0 v1 : Value) : Prop := w.cell? ⟨b, 0, none⟩ = some v0 ∧ w.cell? ⟨b, 1, none⟩ = some v1
theorem P4.keep {W w' : World} {b : Nat} {v0 v1 v2 v3 : Value} (h : P4 W b v0 v1 v2 v3) (hb : Below W.heap.size W w') : P4 w' b v0 v1 v2 v3 :=
  ⟨Qxb6605381aDoor.keep hb h.1, Qxb6605381aDoor.keep hb h.2.1, Qxb6605381aDoor.keep hb h.2.2.1, Qxb6605381aDoor.keep hb h.2.2.2⟩
theorem K2.keep {W w' : World} {b : Nat} {v0 v1 : Value} (h : K2 W b v0 v1) (hb : Below W.heap.size W w') : K2 w' b v0 v1 := ⟨Qxb6605381aDoor.keep hb h.1, Qxb6605381aDoor.keep hb h.2⟩
theorem P4_new (w : World) (v0 v1 v2 v3 : Value) (t : TypeId) : P4 (w.alloc (.cells #[v0, v1, v2, v3] t)) w.heap.size v0 v1 v2 v3 := ⟨by simp, by simp, by simp, by simp⟩
theorem K2_new (w : World) (v0 v1 : Value) (t : TypeId) : K2 (w.alloc (.cells #[v0, v1] t)) w.heap.size v0 v1 := ⟨by simp, by simp⟩
theorem P4.alloc {w : World} {b : Nat} {v0 v1 v2 v3 : Value} (h : P4 w b v0 v1 v2 v3) (o : Obj) : P4 (w.alloc o) b v0 v1 v2 v3 := h.keep ((Below.refl _ _).alloc (Nat.le_refl _) _)

set_option maxHeartbeats 2000000 in
theorem lawM_nil (nm : ByteArray) (w : World) (hs : nm.size ≤ maxLen) :
    Calls Tryd.prog 6 #[.string nm, .slice none 0 0] w fun e w' => e = .returned (.bool true) ∧ Below w.heap.size w w' := by
  have c21 := bytes21_any nm none 0 [] w (.inl rfl) hs (by simp)
  unfold maxLen at hs
  go_enter Tryd.func6, Tryd.ntmps6
  go_wp2_with (go_at_call 21; go_fit c21; rintro e w' ⟨b, rfl, hbt, rfl⟩; refine Hid.out ?_)
  refine Lib.hid ?_
  clear c21
  cases b with
  | false =>
    clear hbt
    go_wp2_with fail
    go_ret
    exact ⟨rfl, Below.refl _ _⟩
  | true =>
    clear hbt
    by_cases h1 : nm.size ≤ 65536
    · have c14 := strs14_any none 0 [] w' (.inl rfl) (by simp) (by simp [total])
      go_wp2_with (go_at_call 14; go_fit c14; rintro e w2 ⟨c, hc, rfl, rfl⟩; refine Hid.out ?_)
      refine Lib.hid ?_
      clear c14
      by_cases h2 : nm.size + c ≤ 1048576
      · have c15 := fit15_any none 0 [] w2 (.inl rfl) (by simp) (by simp)
        go_wp2_with (go_at_call 15; go_fit c15; rintro e w2 ⟨b, rfl, rfl⟩; refine Hid.out ?_)
        refine Lib.hid ?_
        clear c15
        cases b with
        | false =>
          go_wp2_with fail
          go_ret
          exact ⟨rfl, Below.refl _ _⟩
        | true =>
          have c17 := fun w => clone17_nil w
          have c22 := fun w => stars22_any none 0 [] w (.inl rfl) (by simp)
          have he : ∀ w : World, (binOp .eql 24 (.slice none 0 0) (.slice none 0 0)).run Tryd.prog w = .ok (.bool true) w := fun _ => rfl
          have C22 : Hid _ := c22
          have C17 : Hid _ := c17
          clear c17 c22
          go_wp2_with (first
            | (go_at_call 17; go_fit (C17.out _); rintro e w2 ⟨rfl, rfl⟩)
            | (go_at_call 22; go_fit (C22.out _); rintro e w3 ⟨t, ht, rfl, rfl⟩; refine Hid.out ?_))
          refine Lib.hid ?_
          have ht0 : t = 0 := by simpa using ht
          subst ht0
          clear ht
          have c18 := zzpattern_any false nm none 0 0 0 w3
          go_wp2_with (go_at_call 18; go_fit c18; rintro e w4 ⟨rfl, hb4⟩; refine Hid.out ?_)
          refine Lib.hid ?_
          clear c18
          go_wp2_with fail
          have c18 := zzpattern_any true ⟨#[]⟩ none 0 0 0 (w4.alloc (.cells #[.bool false, .string nm, .slice none 0 0, .int .i64 0] 33))
          go_fit c18
          rintro e w5 ⟨rfl, hb5⟩
          clear c18
          have p5 := (P4_new w4 (.bool false) (.string nm) (.slice none 0 0) (.int .i64 0) 33).keep hb5
          have b5 : Below w3.heap.size w3 w5 := (hb4.alloc hb4.size _).trans (hb5.mono (by simp; have := hb4.size; omega))
          have z5 : w4.heap.size < w5.heap.size := World.block_lt_of_cell? _ _ p5.1
          clear hb4 hb5
          have P5 : Hid _ := p5
          have x0 := fun o1 o2 o3 => (((p5.alloc o1).alloc o2).alloc o3).1
          have x1 := fun o1 o2 o3 => (((p5.alloc o1).alloc o2).alloc o3).2.1
          have x2 := fun o1 o2 o3 => (((p5.alloc o1).alloc o2).alloc o3).2.2.1
          have x3 := fun o1 o2 o3 => (((p5.alloc o1).alloc o2).alloc o3).2.2.2
          clear p5
          go_wp2_with fail
          obtain ⟨W, HW⟩ : ∃ W, Hid (((w5.alloc (.cells #[.bool true, .string ⟨#[]⟩, .slice none 0 0, .int .i64 0] 33)).alloc (.cells #[] 9)).alloc (.cells #[.string nm, .slice (some ⟨w5.heap.size + 1, 0, none⟩) 0 0] 31) = W) := ⟨_, rfl⟩
          have pW : P4 W w4.heap.size (.bool false) (.string nm) (.slice none 0 0) (.int .i64 0) := by rw [← HW.out]; exact ((P4.alloc (show P4 w5 w4.heap.size _ _ _ _ from P5.out) _).alloc _).alloc _
          have aW : P4 W w5.heap.size (.bool true) (.string ⟨#[]⟩) (.slice none 0 0) (.int .i64 0) := by rw [← HW.out]; exact ((P4_new w5 _ _ _ _ 33).alloc _).alloc _
          have kW : K2 W (w5.heap.size + 1 + 1) (.string nm) (.slice (some ⟨w5.heap.size + 1, 0, none⟩) 0 0) := by
            rw [← HW.out]
            have := K2_new ((w5.alloc (.cells #[.bool true, .string ⟨#[]⟩, .slice none 0 0, .int .i64 0] 33)).alloc (.cells #[] 9)) (.string nm) (.slice (some ⟨w5.heap.size + 1, 0, none⟩) 0 0) 31
            simpa using this
          have bW : Below w3.heap.size w3 W := by
            rw [← HW.out]
            exact ((b5.alloc b5.size _).alloc (by simp; have := b5.size; omega) _).alloc (by simp; have := b5.size; omega) _
          rw [HW.out]
          clear HW P5 x0 x1 x2 x3
          have c19 := self_nil nm W (by omega)
          go_fit c19
          rintro e w6 ⟨rfl, hb6⟩
          clear c19
          have aW6 := aW.keep hb6
          have kW6 := kW.keep hb6
          have b6 := bW.trans (hb6.mono bW.size)
          have pW6 := pW.keep hb6
          have AW6 : Hid _ := aW6
          have KW6 : Hid _ := kW6
          have PW6 : Hid _ := pW6
          obtain ⟨x0, x1, x2, x3⟩ := aW6
          obtain ⟨y0, y1⟩ := kW6
          clear pW6 pW aW kW
          go_wp2_with fail
          have c19 := match_all ⟨#[]⟩ nm none (some ⟨w5.heap.size + 1, 0, none⟩) 0 0 0 0 0 w6
          go_fit c19
          rintro e w7 ⟨rfl, hb7⟩
          clear c19 x0 x1 x2 x3 y0 y1
          obtain ⟨x0, x1, x2, x3⟩ := P4.keep (show P4 w6 w4.heap.size _ _ _ _ from PW6.out) hb7
          obtain ⟨y0, y1⟩ := K2.keep (show K2 w6 (w5.heap.size + 1 + 1) _ _ from KW6.out) hb7
          have b7 := b6.trans (hb7.mono b6.size)
          go_wp2_with fail
          have c19 := flip_nil nm (w5.heap.size + 1) 0 w7 (by omega)
          go_fit c19
          rintro e w8 ⟨rfl, hb8⟩
          go_wp2_with fail
          go_ret
          exact ⟨rfl, b7.trans (hb8.mono b7.size)⟩
      · go_wp2_with fail
        go_ret
        exact ⟨rfl, Below.refl _ _⟩
    · go_wp2_with fail
      go_ret
      exact ⟨rfl, Below.refl _ _⟩

set_option maxHeartbeats 2000000 in
theorem lawM_some (nm : ByteArray) (a : Addr) (cap : Nat) (xs : List ByteArray) (w : World) (hx : HS w (some a) xs) (hs : nm.size ≤ maxLen) (hn : xs.length ≤ maxLen) :
    Calls Tryd.prog 6 #[.string nm, .slice (some a) xs.length cap] w fun e w' => e = .returned (.bool true) ∧ Below w.heap.size w w' := by
  have c21 := bytes21_any nm (some a) cap xs w hx hs hn
  unfold maxLen at hs hn
  go_enter Tryd.func6, Tryd.ntmps6
  go_wp2_with (go_at_call 21; go_fit c21; rintro e w' ⟨b, rfl, hbt, rfl⟩; refine Hid.out ?_)
  refine Lib.hid ?_
  clear c21
  cases b with
  | false =>
    clear hbt
    go_wp2_with fail
    go_ret
    exact ⟨rfl, Below.refl _ _⟩
  | true =>
    obtain ⟨hl1, hl2⟩ := hbt rfl
    clear hbt
    by_cases h1 : nm.size ≤ 65536
    · have c14 := strs14_any (some a) cap xs w' hx hl1 hl2
      go_wp2_with (go_at_call 14; go_fit c14; rintro e w2 ⟨c, hc, rfl, rfl⟩; refine Hid.out ?_)
      refine Lib.hid ?_
      clear c14
      by_cases h2 : nm.size + c ≤ 1048576
      · have c15 := fit15_any (some a) cap xs w2 hx hl1 (fun x h => by have := mem_total h; omega)
        go_wp2_with (go_at_call 15; go_fit c15; rintro e w2 ⟨b, rfl, rfl⟩; refine Hid.out ?_)
        refine Lib.hid ?_
        clear c15
        cases b with
        | false =>
          go_wp2_with fail
          go_ret
          exact ⟨rfl, Below.refl _ _⟩
        | true =>
          have c17 := clone17_some a cap xs w2 hx hl1
          go_wp2_with (go_at_call 17; go_fit c17; rintro e w3 ⟨rfl, ho, hb3⟩; refine Hid.out ?_)
          refine Lib.hid ?_
          clear c17 hx
          have hg := (ho.lt _ rfl).2
          have hcell : ∀ (j : Nat) (hj : j < xs.length), w3.cell? ⟨w2.heap.size, j, none⟩ = some (.string xs[j]) := fun j hj => by
            have := ho.cells (g := w2.heap.size) rfl j (.string xs[j]) (by simp [scs, hj])
            rwa [addr_add] at this
          have hs3 : HS w3 (some ⟨w2.heap.size, 0, none⟩) xs := .inr ⟨w2.heap.size, 0, rfl, hg, fun j hj => by rw [Nat.zero_add]; exact hcell j hj⟩
          have HC : Hid _ := hcell
          clear hcell ho
          obtain ⟨G, HGG⟩ : ∃ G, Hid (w2.heap.size = G) := ⟨_, rfl⟩
          have c22 := stars22_any (some ⟨w2.heap.size, 0, none⟩) xs.length xs w3 hs3 hl1
          have he : ∀ (n : Nat) (w : World), (binOp .eql 24 (sl w2.heap.size n) (.slice none 0 0)).run Tryd.prog w = .ok (.bool false) w := fun _ _ => rfl
          go_wp2_with (go_at_call 22; go_fit c22; rintro e w3 ⟨t, ht, rfl, rfl⟩; refine Hid.out ?_)
          refine Lib.hid ?_
          clear c22 HGG
          obtain ⟨f, hf⟩ : ∃ f : Nat, f + t = xs.length := ⟨xs.length - t, by omega⟩
          have hfi : (xs.length : Int) - (t : Int) = (f : Int) := by omega
          have hfle : f ≤ xs.length := by omega
          clear hf
          go_wp2_with fail
          have c18 := zzpattern_any false nm (some ⟨w2.heap.size, 0, none⟩) xs.length xs.length f w3
          go_fit c18
          rintro e w4 ⟨rfl, hb4⟩
          clear c18
          go_wp2_with fail
          have c18 := zzpattern_any true ⟨#[]⟩ none 0 0 0 (w4.alloc (.cells #[.bool false, .string nm, sl w2.heap.size xs.length, .int .i64 f] 33))
          go_fit c18
          rintro e w5 ⟨rfl, hb5⟩
          clear c18
          have p5 := (P4_new w4 (.bool false) (.string nm) (sl w2.heap.size xs.length) (.int .i64 f) 33).keep hb5
          have b5 : Below w3.heap.size w3 w5 := (hb4.alloc hb4.size _).trans (hb5.mono (by simp; have := hb4.size; omega))
          have z5 : w4.heap.size < w5.heap.size := World.block_lt_of_cell? _ _ p5.1
          clear hb4 hb5
          have P5 : Hid _ := p5
          have x0 := fun o1 o2 => ((p5.alloc o1).alloc o2).1
          have x1 := fun o1 o2 => ((p5.alloc o1).alloc o2).2.1
          have x2 := fun o1 o2 => ((p5.alloc o1).alloc o2).2.2.1
          have x3 := fun o1 o2 => ((p5.alloc o1).alloc o2).2.2.2
          clear p5
          go_wp2_with fail
          obtain ⟨W, HW⟩ : ∃ W, Hid ((w5.alloc (.cells #[.bool true, .string ⟨#[]⟩, .slice none 0 0, .int .i64 0] 33)).alloc (.cells #[.string nm, .slice none 0 0] 31) = W) := ⟨_, rfl⟩
          have pW : P4 W w4.heap.size (.bool false) (.string nm) (sl w2.heap.size xs.length) (.int .i64 f) := by rw [← HW.out]; exact (P4.alloc (show P4 w5 w4.heap.size _ _ _ _ from P5.out) _).alloc _
          have aW : P4 W w5.heap.size (.bool true) (.string ⟨#[]⟩) (.slice none 0 0) (.int .i64 0) := by rw [← HW.out]; exact (P4_new w5 _ _ _ _ 33).alloc _
          have kW : K2 W (w5.heap.size + 1) (.string nm) (.slice none 0 0) := by
            rw [← HW.out]
            have := K2_new (w5.alloc (.cells #[.bool true, .string ⟨#[]⟩, .slice none 0 0, .int .i64 0] 33)) (.string nm) (.slice none 0 0) 31
            simpa using this
          have bW : Below w3.heap.size w3 W := by
            rw [← HW.out]
            exact (b5.alloc b5.size _).alloc (by simp; have := b5.size; omega) _
          rw [HW.out]
          clear HW P5 x0 x1 x2 x3
          have c19 := self_some nm w2.heap.size xs f W (by omega) hl1 hfle (fun x h => by have := mem_total h; omega) (Nat.lt_of_lt_of_le hg bW.size) (fun j hj => keep bW (HC.out j hj))
          go_fit c19
          rintro e w6 ⟨rfl, hb6⟩
          clear c19
          have aW6 := aW.keep hb6
          have kW6 := kW.keep hb6
          have b6 := bW.trans (hb6.mono bW.size)
          have pW6 := pW.keep hb6
          have KW6 : Hid _ := kW6
          have PW6 : Hid _ := pW6
          obtain ⟨x0, x1, x2, x3⟩ := aW6
          obtain ⟨y0, y1⟩ := kW6
          clear pW6 pW aW kW
          go_wp2_with fail
          have c19 := match_all ⟨#[]⟩ nm none none 0 0 0 0 0 w6
          go_fit c19
          rintro e w7 ⟨rfl, hb7⟩
          clear c19 x0 x1 x2 x3 y0 y1
          obtain ⟨x0, x1, x2, x3⟩ := P4.keep (show P4 w6 w4.heap.size _ _ _ _ from PW6.out) hb7
          obtain ⟨y0, y1⟩ := K2.keep (show K2 w6 (w5.heap.size + 1) _ _ from KW6.out) hb7
          have b7 := b6.trans (hb7.mono b6.size)
          go_wp2_with fail
          have c19 := flip_some nm w2.heap.size xs.length f w7 (by omega)
          go_fit c19
          rintro e w8 ⟨rfl, hb8⟩
          go_wp2_with fail
          go_ret
          exact ⟨rfl, hb3.trans ((b7.trans (hb8.mono b7.size)).mono hb3.size)⟩
      · go_wp2_with fail
        go_ret
        exact ⟨rfl, Below.refl _ _⟩
    · go_wp2_with fail
      go_ret
      exact ⟨rfl, Below.refl _ _⟩
end Go.Proofs.Qxb6605381aDoor
