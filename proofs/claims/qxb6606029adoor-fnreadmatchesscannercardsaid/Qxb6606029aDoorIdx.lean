/-
  strings.IndexAny at "eE" and every string.
-/
import Derived.Test.Qxb6606029aDoorShelfB
import Derived.Test.Qxb6606029aDoorDec
import Derived.Test.Qxb6606029aDoorDigs
import Derived.Test.Qxb6606029aDoorShelf
import Derived.Lib.OthersKept
namespace Go.Proofs.Qxb6606029aDoor
open Go.RowKit Sw

theorem enc_last (r : Int) (hv : Utf8.valid r = true) (h : 128 ≤ r) : ∃ n, (Utf8.encode r).size = n + 1 ∧ 1 ≤ n ∧ n ≤ 3 ∧ 128 ≤ ((Utf8.encode r).get! n).toNat := by
  have hb : r ≤ 1114111 := by
    unfold Utf8.valid at hv
    simp only [Bool.or_eq_true, Bool.and_eq_true, decide_eq_true_eq] at hv
    omega
  unfold Utf8.encode
  simp only [hv, if_true]
  have hl : ∀ k, 128 ≤ (UInt8.ofNat (128 + k % 64)).toNat := fun k => by
    rw [UInt8.toNat_ofNat_of_lt' (by simp [UInt8.size]; omega)]; omega
  rw [if_neg (by omega)]
  split
  · exact ⟨1, rfl, by decide, by decide, hl _⟩
  · split
    · exact ⟨2, rfl, by decide, by decide, hl _⟩
    · exact ⟨3, rfl, by decide, by decide, hl _⟩

set_option maxRecDepth 100000 in
set_option maxHeartbeats 1000000 in
theorem indexRune_bad (r : Int) (w : World) (h0 : 128 ≤ r) (h1 : r ≠ 65533) (hv : Lib.validRune r = false) :
    Calls Tryd.prog 40 #[.string ⟨#[101, 69]⟩, .int .i32 r] w fun e w' => e = .returned (.int .i64 (-1)) ∧ Below w.heap.size w w' := by
  have g1 : (r == 65533) = false := beq_eq_false_iff_ne.2 h1
  have g2 : ¬ r < 128 := by omega
  have g3 : (0 : Int) ≤ r := by omega
  go_enter Tryd.func40, Tryd.ntmps40
  go_wp2_with (go_at_call 60; refine (Tryd.utf8_ValidRune _ _).mono ?_; rintro e w' ⟨rfl, rfl⟩)
  go_ret
  exact ⟨rfl, Below.refl _ _⟩

set_option maxRecDepth 100000 in
set_option maxHeartbeats 1000000 in
theorem indexRune_good1 (r : Int) (w : World) (h0 : 128 ≤ r) (h1 : r ≠ 65533) (hv : Lib.validRune r = true) (rs : ByteArray) (hrs : Utf8.encode r = rs) (hz : rs.size = 2) (hl : 128 ≤ (rs[1].toNat : Int)) :
    Calls Tryd.prog 40 #[.string ⟨#[101, 69]⟩, .int .i32 r] w fun e w' => e = .returned (.int .i64 (-1)) ∧ Below w.heap.size w w' := by
  have g1 : (r == 65533) = false := beq_eq_false_iff_ne.2 h1
  have g2 : ¬ r < 128 := by omega
  have g3 : (0 : Int) ≤ r := by omega
  have hS : (⟨#[101, 69]⟩ : ByteArray)[1] = 69 := rfl
  have hne : ((69 : Int) != (rs[1].toNat : Int)) = true := by rw [bne_iff_ne]; omega
  go_enter Tryd.func40, Tryd.ntmps40
  go_wp2_with (go_at_call 60; refine (Tryd.utf8_ValidRune _ _).mono ?_; rintro e w' ⟨rfl, rfl⟩)
  go_step3
  go_wp2_with fail
  refine wp_loop_rounds 1 ?_
  rw [rounds_succ]
  go_wp2_with fail
  go_step3
  go_wp2_with fail
  go_quiet (fail)
  have hb1 : Below w'.heap.size w' (w'.drewN nq) := below_drewN w' nq
  generalize w'.drewN nq = w1 at hb1 ⊢
  go_wp2_with fail
  have hw2 : IntKind.i64.wrap 2 = 2 := by decide
  have hsl : ∀ W, (Instr.slice 9 (.string ⟨#[101, 69]⟩) (some (.int .i64 2)) none none).run Tryd.prog W = .ok (.string ⟨#[]⟩) W := fun W => by
    rw [run_slice_string_l W 9 _ Tryd.underlying9 .i64 2 (by decide) (by decide)]; rfl
  go_quiet ((go_at_call 59; exact Calls.quiet_of_same (Tryd.strings_IndexByte _ _ _)))
  have hb2 : Below w1.heap.size w1 (w1.drewN nq) := below_drewN w1 nq
  generalize w1.drewN nq = w2 at hb2 ⊢
  go_wp2_with fail
  rw [Exit.noGoto_ret]
  go_wp2_with fail
  rw [Exit.noGoto_ret]
  go_wp2_with fail
  go_ret
  exact ⟨rfl, hb1.trans (hb2.mono hb1.size)⟩
set_option maxRecDepth 100000 in
set_option maxHeartbeats 1000000 in
theorem indexRune_good2 (r : Int) (w : World) (h0 : 128 ≤ r) (h1 : r ≠ 65533) (hv : Lib.validRune r = true) (rs : ByteArray) (hrs : Utf8.encode r = rs) (hz : rs.size = 3) :
    Calls Tryd.prog 40 #[.string ⟨#[101, 69]⟩, .int .i32 r] w fun e w' => e = .returned (.int .i64 (-1)) ∧ Below w.heap.size w w' := by
  have g1 : (r == 65533) = false := beq_eq_false_iff_ne.2 h1
  have g2 : ¬ r < 128 := by omega
  have g3 : (0 : Int) ≤ r := by omega
  go_enter Tryd.func40, Tryd.ntmps40
  go_wp2_with (go_at_call 60; refine (Tryd.utf8_ValidRune _ _).mono ?_; rintro e w' ⟨rfl, rfl⟩)
  go_step3
  go_wp2_with fail
  refine wp_loop_rounds 1 ?_
  rw [rounds_succ]
  go_wp2_with fail
  rw [Exit.noGoto_ret]
  go_wp2_with fail
  go_ret
  exact ⟨rfl, Below.refl _ _⟩
set_option maxRecDepth 100000 in
set_option maxHeartbeats 1000000 in
theorem indexRune_good3 (r : Int) (w : World) (h0 : 128 ≤ r) (h1 : r ≠ 65533) (hv : Lib.validRune r = true) (rs : ByteArray) (hrs : Utf8.encode r = rs) (hz : rs.size = 4) :
    Calls Tryd.prog 40 #[.string ⟨#[101, 69]⟩, .int .i32 r] w fun e w' => e = .returned (.int .i64 (-1)) ∧ Below w.heap.size w w' := by
  have g1 : (r == 65533) = false := beq_eq_false_iff_ne.2 h1
  have g2 : ¬ r < 128 := by omega
  have g3 : (0 : Int) ≤ r := by omega
  go_enter Tryd.func40, Tryd.ntmps40
  go_wp2_with (go_at_call 60; refine (Tryd.utf8_ValidRune _ _).mono ?_; rintro e w' ⟨rfl, rfl⟩)
  go_step3
  go_wp2_with fail
  refine wp_loop_rounds 1 ?_
  rw [rounds_succ]
  go_wp2_with fail
  rw [Exit.noGoto_ret]
  go_wp2_with fail
  go_ret
  exact ⟨rfl, Below.refl _ _⟩
set_option maxRecDepth 100000 in
set_option maxHeartbeats 1000000 in
theorem indexRune_err (s : ByteArray) (w : World) (ha : ∀ pos, pos < s.size → (s.get! pos).toNat < 128) :
    Calls Tryd.prog 40 #[.string s, .int .i32 65533] w fun e w' => e = .returned (.int .i64 (-1)) ∧ Below w.heap.size w w' := by
  have HA : Hid _ := ha
  clear ha
  go_enter Tryd.func40, Tryd.ntmps40
  go_wp2_with fail
  go_loopg [] s.size (fun gf wx => ∃ pos : Nat, wx.heap[w.heap.size]? = some (.stringIter s pos) ∧ Below w.heap.size w wx ∧ s.size ≤ pos + gf)
  case atStart => exact ⟨0, World.iter_heap w s 0, (Below.refl _ w).alloc (Nat.le_refl _) _, by omega⟩
  case round =>
    obtain ⟨pos, hit, hbw, hfu⟩ := hrel
    by_cases hps : pos < s.size
    · obtain ⟨g', rfl⟩ : ∃ g', gk = g' + 1 := ⟨gk - 1, by omega⟩
      have hnx : ∀ ty, (Instr.next (.pointer (some ⟨w.heap.size, 0, none⟩)) true ty).run Tryd.prog wr = _ := fun ty => Lib.run_next_any_at wr w.heap.size s pos ty hit hps
      have hR := HA.out pos hps
      rw [dec_ascii s pos hR] at hnx
      obtain ⟨R, HR⟩ : ∃ R, (s.get! pos).toNat = R := ⟨_, rfl⟩
      rw [HR] at hnx hR
      clear HR
      have hne : ((R : Int) == 65533) = false := beq_eq_false_iff_ne.2 (by omega)
      have hit2 := Lib.iterAt_heap wr w.heap.size s pos (pos + 1) hit
      have hbw2 := Lib.below_iterAt hbw (k := w.heap.size) (Nat.le_refl _) s (pos + 1)
      obtain ⟨W, hWd⟩ : ∃ W, wr.iterAt w.heap.size s (pos + 1) = W := ⟨_, rfl⟩
      rw [hWd] at hnx hit2 hbw2
      clear hit hbw hWd
      go_wp2_with fail
      go_roundg g'
      case measure => omega
      case rel => exact ⟨pos + 1, hit2, hbw2, by omega⟩
    · have hnx : ∀ ty, (Instr.next (.pointer (some ⟨w.heap.size, 0, none⟩)) true ty).run Tryd.prog wr = _ := fun ty => Lib.run_next_end_at wr w.heap.size s pos ty hit hps
      go_wp2_with fail
      go_ret
      exact ⟨rfl, hbw⟩

theorem valid_same (r : Int) : Lib.validRune r = Utf8.valid r := by
  unfold Lib.validRune Utf8.valid
  rw [Bool.eq_iff_iff]
  simp
  omega


theorem indexRune_high (r : Int) (w : World) (h : 128 ≤ r) :
    Calls Tryd.prog 40 #[.string ⟨#[101, 69]⟩, .int .i32 r] w fun e w' => e = .returned (.int .i64 (-1)) ∧ Below w.heap.size w w' := by
  by_cases he : r = 65533
  · subst he
    exact indexRune_err _ w (by decide)
  · cases hv : Lib.validRune r with
    | false => exact indexRune_bad r w h he hv
    | true =>
      obtain ⟨n, hz, h1, h3, hl⟩ := enc_last r (by rw [← valid_same]; exact hv) h
      obtain ⟨rs, hrs⟩ : ∃ rs, Utf8.encode r = rs := ⟨_, rfl⟩
      rw [hrs] at hz hl
      have hg : ∀ k (hk : k < rs.size), (rs.get! k).toNat = rs[k].toNat := fun k hk => by
        simp [ByteArray.get!, getElem!_pos, hk]; rfl
      rw [hg n (by omega)] at hl
      rcases (show n = 1 ∨ n = 2 ∨ n = 3 by omega) with rfl | rfl | rfl
      · exact indexRune_good1 r w h he hv rs hrs hz (by omega)
      · exact indexRune_good2 r w h he hv rs hrs hz
      · exact indexRune_good3 r w h he hv rs hrs hz
theorem get_at (s : ByteArray) (i : Nat) (h : i < s.size) : s.data.toList[i]? = some (s.get! i) := by
  rw [List.getElem?_eq_getElem (by rw [← Lib.size_eq]; exact h)]
  simp [ByteArray.get!, h]
theorem noAny_more {s : ByteArray} {pos K : Nat} (h : Lib.NoAny s.data.toList [101, 69] pos) (hK : pos + K ≤ s.size) (hb : ∀ k, k < K → 128 ≤ (s.get! (pos + k)).toNat) : Lib.NoAny s.data.toList [101, 69] (pos + K) := by
  intro j b hj hjb
  by_cases hp : j < pos
  · exact h j b hp hjb
  · have h1 := hb (j - pos) (by omega)
    rw [show pos + (j - pos) = j by omega] at h1
    rw [get_at s j (by omega)] at hjb
    have e := Option.some.inj hjb
    rw [e] at h1
    have n1 : b ≠ 101 := fun e => by rw [e] at h1; exact absurd h1 (by decide)
    have n2 : b ≠ 69 := fun e => by rw [e] at h1; exact absurd h1 (by decide)
    simp [n1, n2]

set_option maxRecDepth 100000 in
set_option maxHeartbeats 2000000 in
theorem index_short (s : ByteArray) (w : World) (h8 : s.size ≤ 8) :
    Calls Tryd.prog 26 #[.string s, .string ⟨#[101, 69]⟩] w fun e w' => e = .returned (.int .i64 (Lib.indexAny s.data.toList [101, 69])) ∧ Below w.heap.size w w' := by
  have h8z : decide ((8 : Int) < (s.size : Int)) = false := decide_eq_false (by omega)
  have cU := Tryd.strings_shouldUseASCIISet s.size w
  rw [h8z] at cU
  go_enter Tryd.func26, Tryd.ntmps26
  go_wp2_with (first | (go_at_call 41; go_fit cU; rintro e w' ⟨rfl, hw⟩; replace hw := hw.symm; subst hw) | fail)
  clear cU
  go_loopg [] s.size (fun gf wx => ∃ pos : Nat, wx.heap[w.heap.size]? = some (.stringIter s pos) ∧ Below w.heap.size w wx ∧ s.size ≤ pos + gf ∧ Lib.NoAny s.data.toList [101, 69] pos)
  case atStart => exact ⟨0, World.iter_heap w s 0, (Below.refl _ w).alloc (Nat.le_refl _) _, by omega, Lib.NoAny.zero _ _⟩
  case round =>
    obtain ⟨pos, hit, hbw, hfu, hno⟩ := hrel
    have HNO : Hid _ := hno
    clear hno
    by_cases hps : pos < s.size
    · obtain ⟨g', rfl⟩ : ∃ g', gk = g' + 1 := ⟨gk - 1, by omega⟩
      have hnx : ∀ ty, (Instr.next (.pointer (some ⟨w.heap.size, 0, none⟩)) true ty).run Tryd.prog wr = _ := fun ty => Lib.run_next_any_at wr w.heap.size s pos ty hit hps
      have hget := get_at s pos hps
      by_cases hR : (s.get! pos).toNat < 128
      · rw [dec_ascii s pos hR] at hnx
        obtain ⟨x, hx⟩ : ∃ x, s.get! pos = x := ⟨_, rfl⟩
        rw [hx] at hnx hR hget
        have cR := fun W => Tryd.strings_IndexRune_ascii ⟨#[101, 69]⟩ (x.toNat : Int) W (by omega) (by omega)
        rw [show ((x.toNat : Int).toNat.toUInt8) = x by rw [Int.toNat_natCast]; simp, show (⟨#[101, 69]⟩ : ByteArray).data.toList = [101, 69] from rfl] at cR
        have hit2 := Lib.iterAt_heap wr w.heap.size s pos (pos + 1) hit
        have hbw2 := Lib.below_iterAt hbw (k := w.heap.size) (Nat.le_refl _) s (pos + 1)
        obtain ⟨W, hWd⟩ : ∃ W, wr.iterAt w.heap.size s (pos + 1) = W := ⟨_, rfl⟩
        rw [hWd] at hnx hit2 hbw2
        have HGET : Hid _ := hget
        have HIT2 : Hid _ := hit2
        have HBW2 : Hid _ := hbw2
        clear hit hbw hWd hget hit2 hbw2 hx
        by_cases hhit : x = 101 ∨ x = 69
        · have hr : Lib.indexAny s.data.toList [101, 69] = (pos : Int) := Lib.indexAny_hit HNO.out HGET.out (by rcases hhit with rfl | rfl <;> rfl)
          have HR : Hid _ := hr
          clear hr
          obtain ⟨v, hv, hv0⟩ : ∃ v : Nat, Lib.indexByte [101, 69] x = (v : Int) ∧ v ≤ 1 := by
            rcases hhit with rfl | rfl
            · exact ⟨0, rfl, by omega⟩
            · exact ⟨1, rfl, by omega⟩
          rw [hv] at cR
          clear hhit hv
          have hv1 : (0 : Int) ≤ (v : Int) := by omega
          go_wp2_with (first | (go_at_call 40; go_fit (cR _); rintro e w' ⟨rfl, hw⟩; replace hw := hw.symm; subst hw) | fail)
          go_ret
          exact ⟨by rw [HR.out]; rfl, HBW2.out⟩
        · have hv : Lib.indexByte [101, 69] x = -1 := by
            have n1 : ¬ 101 = x := fun e => hhit (Or.inl e.symm)
            have n2 : ¬ 69 = x := fun e => hhit (Or.inr e.symm)
            simp [Lib.indexByte, n1, n2]
          rw [hv] at cR
          have hno2 : Lib.NoAny s.data.toList [101, 69] (pos + 1) := Lib.NoAny.succ HNO.out HGET.out (by
            have n1 : ¬ x = 101 := fun e => hhit (Or.inl e)
            have n2 : ¬ x = 69 := fun e => hhit (Or.inr e)
            simp [n1, n2])
          have HNO2 : Hid _ := hno2
          clear hhit hv hno2
          go_wp2_with (first | (go_at_call 40; go_fit (cR _); rintro e w' ⟨rfl, hw⟩; replace hw := hw.symm; subst hw) | fail)
          go_roundg g'
          case measure => omega
          case rel => exact ⟨pos + 1, HIT2.out, HBW2.out, by omega, HNO2.out⟩
      · obtain ⟨d1, d2, d3, d4⟩ := dec_high s pos hps (by omega)
        have hno2 := noAny_more HNO.out d2 d4
        obtain ⟨R, hRR⟩ : ∃ R, (Utf8.decode s pos).1 = R := ⟨_, rfl⟩
        obtain ⟨K, hKK⟩ : ∃ K, (Utf8.decode s pos).2 = K := ⟨_, rfl⟩
        rw [hRR] at d1 hnx
        rw [hKK] at d2 d3 hno2 hnx
        clear d4 hRR hKK hget
        have cR := fun W => indexRune_high (R : Int) W (by omega)
        have hit2 := Lib.iterAt_heap wr w.heap.size s pos (pos + K) hit
        have hbw2 := Lib.below_iterAt hbw (k := w.heap.size) (Nat.le_refl _) s (pos + K)
        obtain ⟨W, hWd⟩ : ∃ W, wr.iterAt w.heap.size s (pos + K) = W := ⟨_, rfl⟩
        rw [hWd] at hnx hit2 hbw2
        have HIT2 : Hid _ := hit2
        have HBW2 : Hid _ := hbw2
        have HNO2 : Hid _ := hno2
        clear hit hbw hWd hit2 hbw2 hno2
        go_wp2_with (first | (go_at_call 40; go_fit (cR _); rintro e w' ⟨rfl, hb3⟩) | fail)
        go_roundg g'
        case measure => omega
        case rel =>
          have hlt : w.heap.size < W.heap.size := (Array.getElem?_eq_some_iff.1 HIT2.out).1
          exact ⟨pos + K, (hb3.block w.heap.size hlt).trans HIT2.out, HBW2.out.trans (hb3.mono HBW2.out.size), by omega, HNO2.out⟩
    · have hnx : ∀ ty, (Instr.next (.pointer (some ⟨w.heap.size, 0, none⟩)) true ty).run Tryd.prog wr = _ := fun ty => Lib.run_next_end_at wr w.heap.size s pos ty hit hps
      have hr : Lib.indexAny s.data.toList [101, 69] = -1 := Lib.indexAny_none (fun j b hj hjb => HNO.out j b (by rw [← Lib.size_eq] at hj; omega) hjb)
      have HR : Hid _ := hr
      clear hr
      go_wp2_with fail
      go_ret
      exact ⟨by rw [HR.out]; rfl, hbw⟩

/-- strings.IndexAny(s, "eE") at every s. -/
theorem index_any (s : ByteArray) (w : World) (hs : s.size ≤ 100000000) :
    Calls Tryd.prog 26 #[.string s, .string ⟨#[101, 69]⟩] w fun e w' => e = .returned (.int .i64 (Lib.indexAny s.data.toList [101, 69])) ∧ Below w.heap.size w w' := by
  by_cases h8 : s.size ≤ 8
  · exact index_short s w h8
  · have h116 : (Tryd.prog.info? 60).map (fun i => (i.zero, i.size)) = some (some (.agg (Array.replicate 256 (.bool false))), 256) := by kernel_rfl
    refine (Any.strings_IndexAny_long Tryd.lays153 (zero_of_info h116).1 (zero_of_info h116).2 s ⟨#[101, 69]⟩ w (by decide) (by omega) (by omega) (by decide) (ascii_of_all (by decide))).mono ?_
    rintro e w' ⟨he, hw⟩
    subst hw
    exact ⟨he, ((Below.refl _ w).alloc (Nat.le_refl _) _).alloc (by simp) _⟩
end Go.Proofs.Qxb6606029aDoor
