/-
  ZZPattern and (Pattern).Match, at what the law hands them.
-/
import Derived.Test.Qxb6605381aDoorStrs
namespace Go.Proofs.Qxb6605381aDoor
open Go.RowKit Gl

/-- ZZPattern lays the struct. -/
theorem zzpattern_any (b : Bool) (nm : ByteArray) (ao : Option Addr) (n cap : Nat) (f : Int) (w : World) :
    Calls Tryd.prog 18 #[.bool b, .string nm, .slice ao n cap, .int .i64 f] w fun e w' => e = .returned (.agg #[.bool b, .string nm, .slice ao n cap, .int .i64 f]) ∧ Below w.heap.size w w' := by
  go_enter Tryd.func18, Tryd.ntmps18
  go_wp2_with fail
  exact bodyPost_ret (v := .agg #[.bool b, .string nm, .slice ao n cap, .int .i64 f]) (by simp [results, Tryd.results18, go_sem]) rfl ⟨rfl, (Below.refl _ _).alloc (Nat.le_refl _) _⟩

/-- The pattern that matches every key. -/
theorem match_all (nm d : ByteArray) (ao bo : Option Addr) (n cap m cap2 : Nat) (f : Int) (w : World) :
    Calls Tryd.prog 19 #[.agg #[.bool true, .string nm, .slice ao n cap, .int .i64 f], .agg #[.string d, .slice bo m cap2]] w fun e w' => e = .returned (.bool true) ∧ Below w.heap.size w w' := by
  go_enter Tryd.func19, Tryd.ntmps19
  go_wp2_with fail
  go_ret
  exact ⟨rfl, ((Below.refl _ _).alloc (Nat.le_refl _) _).alloc (by simp) _⟩

/-- The two boxes of a call of Match. -/
def box2 (w : World) (nm d : ByteArray) (vp vk : Value) (f : Int) : World :=
  (w.alloc (.cells #[.bool false, .string nm, vp, .int .i64 f] 33)).alloc (.cells #[.string d, vk] 31)
theorem box2_below (w : World) (nm d : ByteArray) (vp vk : Value) (f : Int) : Below w.heap.size w (box2 w nm d vp vk f) := ((Below.refl _ _).alloc (Nat.le_refl _) _).alloc (by simp) _
theorem box2_size (w : World) (nm d : ByteArray) (vp vk : Value) (f : Int) : (box2 w nm d vp vk f).heap.size = w.heap.size + 2 := by simp [box2]
theorem box2_cells {w w' : World} {nm d : ByteArray} {vp vk : Value} {f : Int} (hb : Below (w.heap.size + 2) (box2 w nm d vp vk f) w') :
    w'.cell? ⟨w.heap.size, 1, none⟩ = some (.string nm) ∧ w'.cell? ⟨w.heap.size, 2, none⟩ = some vp ∧ w'.cell? ⟨w.heap.size, 3, none⟩ = some (.int .i64 f) ∧
    w'.cell? ⟨w.heap.size + 1, 0, none⟩ = some (.string d) ∧ w'.cell? ⟨w.heap.size + 1, 1, none⟩ = some vk := by
  have h := fun b o (hh : b < w.heap.size + 2) => hb.cell (p := ⟨b, o, none⟩) hh
  refine ⟨?_, ?_, ?_, ?_, ?_⟩
  · rw [h _ _ (by omega)]; simp [box2]
  · rw [h _ _ (by omega)]; simp [box2]
  · rw [h _ _ (by omega)]; simp [box2]
  · rw [h _ _ (by omega)]; simp [box2]
  · rw [h _ _ (by omega)]; simp [box2]

theorem glob_self (s : ByteArray) (w : World) (hs : s.size ≤ 100000000) : Calls Tryd.prog 31 #[.string s, .string s] w fun e w' => e = .returned (.bool true) ∧ Below w.heap.size w w' := by
  have := glob_any s s w hs hs
  rw [gm_self] at this
  exact this

set_option maxHeartbeats 1000000 in
/-- A pattern without brackets refuses a key with them. -/
theorem flip_nil (nm : ByteArray) (g : Nat) (f : Int) (w : World) (hs : nm.size ≤ 100000000) :
    Calls Tryd.prog 19 #[.agg #[.bool false, .string nm, .slice none 0 0, .int .i64 f], .agg #[.string nm, .slice (some ⟨g, 0, none⟩) 0 0]] w fun e w' => e = .returned (.bool false) ∧ Below w.heap.size w w' := by
  have he : ∀ w : World, (binOp .eql 24 (.slice none 0 0) (.slice none 0 0)).run Tryd.prog w = .ok (.bool true) w := fun _ => rfl
  have he2 : ∀ w : World, (binOp .eql 24 (.slice (some ⟨g, 0, none⟩) 0 0) (.slice none 0 0)).run Tryd.prog w = .ok (.bool false) w := fun _ => rfl
  have c31 := fun w => glob_self nm w hs
  have C31 : Hid _ := c31
  clear c31
  go_enter Tryd.func19, Tryd.ntmps19
  go_wp2_with (go_at_call 31; go_fit (C31.out _); rintro e w1 ⟨rfl, hb1⟩; refine Hid.out ?_)
  refine Lib.hid ?_
  have hb2 : Below (w.heap.size + 2) (box2 w nm nm (.slice none 0 0) (.slice (some ⟨g, 0, none⟩) 0 0) f) w1 := by
    have := hb1
    rw [show w.heap.size + 2 = (box2 w nm nm (.slice none 0 0) (.slice (some ⟨g, 0, none⟩) 0 0) f).heap.size from (box2_size ..).symm]
    exact this
  obtain ⟨k1, k2, k3, k4, k5⟩ := box2_cells hb2
  have hbw := (box2_below w nm nm (.slice none 0 0) (.slice (some ⟨g, 0, none⟩) 0 0) f).trans (hb2.mono (by omega))
  clear hb1 hb2
  go_wp2_with fail
  go_ret
  exact ⟨rfl, hbw⟩

set_option maxHeartbeats 1000000 in
/-- A pattern with brackets refuses a key without them. -/
theorem flip_some (nm : ByteArray) (g n : Nat) (f : Int) (w : World) (hs : nm.size ≤ 100000000) :
    Calls Tryd.prog 19 #[.agg #[.bool false, .string nm, sl g n, .int .i64 f], .agg #[.string nm, .slice none 0 0]] w fun e w' => e = .returned (.bool false) ∧ Below w.heap.size w w' := by
  have he : ∀ w : World, (binOp .eql 24 (.slice none 0 0) (.slice none 0 0)).run Tryd.prog w = .ok (.bool true) w := fun _ => rfl
  have he2 : ∀ w : World, (binOp .eql 24 (sl g n) (.slice none 0 0)).run Tryd.prog w = .ok (.bool false) w := fun _ => rfl
  have c31 := fun w => glob_self nm w hs
  have C31 : Hid _ := c31
  clear c31
  go_enter Tryd.func19, Tryd.ntmps19
  go_wp2_with (go_at_call 31; go_fit (C31.out _); rintro e w1 ⟨rfl, hb1⟩; refine Hid.out ?_)
  refine Lib.hid ?_
  have hb2 : Below (w.heap.size + 2) (box2 w nm nm (sl g n) (.slice none 0 0) f) w1 := by
    have := hb1
    rw [show w.heap.size + 2 = (box2 w nm nm (sl g n) (.slice none 0 0) f).heap.size from (box2_size ..).symm]
    exact this
  obtain ⟨k1, k2, k3, k4, k5⟩ := box2_cells hb2
  have hbw := (box2_below w nm nm (sl g n) (.slice none 0 0) f).trans (hb2.mono (by omega))
  clear hb1 hb2
  go_wp2_with fail
  go_ret
  exact ⟨rfl, hbw⟩

set_option maxHeartbeats 1000000 in
/-- A pattern without brackets matches its own name. -/
theorem self_nil (nm : ByteArray) (w : World) (hs : nm.size ≤ 100000000) :
    Calls Tryd.prog 19 #[.agg #[.bool false, .string nm, .slice none 0 0, .int .i64 0], .agg #[.string nm, .slice none 0 0]] w fun e w' => e = .returned (.bool true) ∧ Below w.heap.size w w' := by
  have he : ∀ w : World, (binOp .eql 24 (.slice none 0 0) (.slice none 0 0)).run Tryd.prog w = .ok (.bool true) w := fun _ => rfl
  have c31 := fun w => glob_self nm w hs
  have C31 : Hid _ := c31
  clear c31
  go_enter Tryd.func19, Tryd.ntmps19
  go_wp2_with (go_at_call 31; go_fit (C31.out _); rintro e w1 ⟨rfl, hb1⟩; refine Hid.out ?_)
  refine Lib.hid ?_
  have hb2 : Below (w.heap.size + 2) (box2 w nm nm (.slice none 0 0) (.slice none 0 0) 0) w1 := by
    have := hb1
    rw [show w.heap.size + 2 = (box2 w nm nm (.slice none 0 0) (.slice none 0 0) 0).heap.size from (box2_size ..).symm]
    exact this
  obtain ⟨k1, k2, k3, k4, k5⟩ := box2_cells hb2
  have hbw := (box2_below w nm nm (.slice none 0 0) (.slice none 0 0) 0).trans (hb2.mono (by omega))
  clear hb1 hb2
  go_wp2_with fail
  refine wp_loop_rounds 1 ?_
  rw [rounds_succ]
  go_wp2_with fail
  go_ret
  exact ⟨rfl, hbw⟩

set_option maxHeartbeats 2000000 in
/-- A pattern with brackets matches its own name and parameters. -/
theorem self_some (nm : ByteArray) (g : Nat) (xs : List ByteArray) (f : Nat) (w : World) (hs : nm.size ≤ 100000000) (hn : xs.length ≤ 1048576) (hf : f ≤ xs.length) (hx : ∀ x ∈ xs, x.size ≤ 100000000) (hg : g < w.heap.size) (hcell : ∀ (j : Nat) (hj : j < xs.length), w.cell? ⟨g, j, none⟩ = some (.string xs[j])) :
    Calls Tryd.prog 19 #[.agg #[.bool false, .string nm, sl g xs.length, .int .i64 f], .agg #[.string nm, sl g xs.length]] w fun e w' => e = .returned (.bool true) ∧ Below w.heap.size w w' := by
  have he2 : ∀ w : World, (binOp .eql 24 (sl g xs.length) (.slice none 0 0)).run Tryd.prog w = .ok (.bool false) w := fun _ => rfl
  have c31 := fun w => glob_self nm w hs
  have C31 : Hid _ := c31
  have HX : Hid _ := hx
  have HC : Hid _ := hcell
  clear c31 hx hcell
  go_enter Tryd.func19, Tryd.ntmps19
  go_wp2_with (go_at_call 31; go_fit (C31.out _); rintro e w1 ⟨rfl, hb1⟩; refine Hid.out ?_)
  refine Lib.hid ?_
  have hb2 : Below (w.heap.size + 2) (box2 w nm nm (sl g xs.length) (sl g xs.length) f) w1 := by
    have := hb1
    rw [show w.heap.size + 2 = (box2 w nm nm (sl g xs.length) (sl g xs.length) f).heap.size from (box2_size ..).symm]
    exact this
  obtain ⟨k1, k2, k3, k4, k5⟩ := box2_cells hb2
  clear hb1
  have open1 : f < xs.length ∨ f = xs.length := by omega
  rcases open1 with ho | ho
  · have hbi : decide (xs.length < f) = false := by simp; omega
    go_wp2_with fail
    go_loopg [59] f (fun gg v wr => ∃ k : Nat, k + gg = f ∧ v = .int .i64 k ∧ Below (w.heap.size + 2) (box2 w nm nm (sl g xs.length) (sl g xs.length) f) wr)
    case atStart => exact ⟨0, by omega, rfl, hb2⟩
    case round =>
      clear k1 k2 k3 k4 k5 hb2 hbi
      obtain ⟨k, hk, rfl, hbk⟩ := hrel
      have HG : Hid _ := hk
      clear hk
      by_cases hlt : k < f
      · obtain ⟨k1, k2, k3, k4, k5⟩ := box2_cells hbk
        have hbw := (box2_below w nm nm (sl g xs.length) (sl g xs.length) f).trans (hbk.mono (by omega))
        have hkx : k < xs.length := by omega
        have hc := (hbw.cell (p := ⟨g, k, none⟩) hg).trans (HC.out k hkx)
        have hxk := HX.out xs[k] (List.getElem_mem hkx)
        obtain ⟨y, hy⟩ : ∃ y, xs[k] = y := ⟨_, rfl⟩
        rw [hy] at hc hxk
        clear hy
        have c := glob_self y wr hxk
        go_wp2_with (go_at_call 31; go_fit c; rintro e w2 ⟨rfl, hb2⟩)
        go_roundg (f - (k + 1))
        case measure => have := HG.out; omega
        case rel =>
          have hz := hbk.size
          rw [box2_size] at hz
          exact ⟨k + 1, by omega, by go_num, hbk.trans (hb2.mono hz)⟩
      · have hbw := (box2_below w nm nm (sl g xs.length) (sl g xs.length) f).trans (hbk.mono (by omega))
        go_wp2_with fail
        go_ret
        exact ⟨rfl, hbw⟩
  · subst ho
    go_wp2_with fail
    go_loopg [59] xs.length (fun gg v wr => ∃ k : Nat, k + gg = xs.length ∧ v = .int .i64 k ∧ Below (w.heap.size + 2) (box2 w nm nm (sl g xs.length) (sl g xs.length) xs.length) wr)
    case atStart => exact ⟨0, by omega, rfl, hb2⟩
    case round =>
      clear k1 k2 k3 k4 k5 hb2
      obtain ⟨k, hk, rfl, hbk⟩ := hrel
      have HG : Hid _ := hk
      clear hk
      by_cases hlt : k < xs.length
      · obtain ⟨k1, k2, k3, k4, k5⟩ := box2_cells hbk
        have hbw := (box2_below w nm nm (sl g xs.length) (sl g xs.length) xs.length).trans (hbk.mono (by omega))
        have hkx : k < xs.length := by omega
        have hc := (hbw.cell (p := ⟨g, k, none⟩) hg).trans (HC.out k hkx)
        have hxk := HX.out xs[k] (List.getElem_mem hkx)
        obtain ⟨y, hy⟩ : ∃ y, xs[k] = y := ⟨_, rfl⟩
        rw [hy] at hc hxk
        clear hy
        have c := glob_self y wr hxk
        go_wp2_with (go_at_call 31; go_fit c; rintro e w2 ⟨rfl, hb2⟩)
        go_roundg (xs.length - (k + 1))
        case measure => have := HG.out; omega
        case rel =>
          have hz := hbk.size
          rw [box2_size] at hz
          exact ⟨k + 1, by omega, by go_num, hbk.trans (hb2.mono hz)⟩
      · have hbw := (box2_below w nm nm (sl g xs.length) (sl g xs.length) xs.length).trans (hbk.mono (by omega))
        go_wp2_with fail
        go_ret
        exact ⟨rfl, hbw⟩
end Go.Proofs.Qxb6605381aDoor
