/-
  strings.ContainsRune at the safe set and a rune from 128 on.
-/
import Derived.Test.Qxb6600464aDoorSmall
import Derived.Test.Qxb6600464aDoorDec
import Derived.Test.Qxb6600464aDoorShelf
import Derived.Deep.LoopGhost
import Derived.Deep.QuietTactic
import Derived.BigQuiet
import Derived.Lib.OthersKept
namespace Go.Proofs.Qxb6600464aDoor
open Go.RowKit Sw


theorem enc_last (r : Int) (hv : Utf8.valid r = true) (h : 128 ≤ r) : ∃ n, (Utf8.encode r).size = n + 1 ∧ 1 ≤ n ∧ n ≤ 3 ∧ 128 ≤ ((Utf8.encode r).get! n).toNat := by
  have hb : r ≤ 1114111 := by
    unfold Utf8.valid at hv
    simp only [Bool.or_eq_true, Bool.and_eq_true, decide_eq_true_eq] at hv
    omega
  unfold Utf8.encode
  simp only [hv, if_true]
  have hl : ∀ k, 128 ≤ (UInt8.ofNat (128 + k % 64)).toNat := fun k => by
    rw [UInt8.toNat_ofNat_of_lt' (by simp [UInt8.size]; omega)]; omega
  rw [if_neg (by omega)]
  split
  · exact ⟨1, rfl, by decide, by decide, hl _⟩
  · split
    · exact ⟨2, rfl, by decide, by decide, hl _⟩
    · exact ⟨3, rfl, by decide, by decide, hl _⟩

set_option maxRecDepth 100000 in
set_option maxHeartbeats 1000000 in
theorem indexRune_bad (r : Int) (w : World) (h0 : 128 ≤ r) (h1 : r ≠ 65533) (hv : Lib.validRune r = false) :
    Calls Tryd.prog 34 #[.string ⟨#[64, 37, 43, 61, 58, 44, 46, 47, 95, 45]⟩, .int .i32 r] w fun e w' => e = .returned (.int .i64 (-1)) ∧ Below w.heap.size w w' := by
  have g1 : (r == 65533) = false := beq_eq_false_iff_ne.2 h1
  have g2 : ¬ r < 128 := by omega
  have g3 : (0 : Int) ≤ r := by omega
  go_enter Tryd.func34, Tryd.ntmps34
  go_wp2_with (go_at_call 42; refine (Tryd.utf8_ValidRune _ _).mono ?_; rintro e w' ⟨rfl, rfl⟩)
  go_ret
  exact ⟨rfl, Below.refl _ _⟩

theorem tail1_none (c : UInt8) (h : 128 ≤ (c.toNat : Int)) : Lib.indexByte [43, 61, 58, 44, 46, 47, 95, 45] c = -1 := by
  have hb : ∀ x : UInt8, x.toNat < 128 → (x == c) = false := fun x hx => by
    rw [beq_eq_false_iff_ne]; intro e; subst e; omega
  simp [Lib.indexByte, hb]
set_option maxRecDepth 100000 in
set_option maxHeartbeats 1000000 in
theorem indexRune_good1 (r : Int) (w : World) (h0 : 128 ≤ r) (h1 : r ≠ 65533) (hv : Lib.validRune r = true) (rs : ByteArray) (hrs : Utf8.encode r = rs) (hz : rs.size = 2) (hl : 128 ≤ (rs[1].toNat : Int)) :
    Calls Tryd.prog 34 #[.string ⟨#[64, 37, 43, 61, 58, 44, 46, 47, 95, 45]⟩, .int .i32 r] w fun e w' => e = .returned (.int .i64 (-1)) ∧ Below w.heap.size w w' := by
  have g1 : (r == 65533) = false := beq_eq_false_iff_ne.2 h1
  have g2 : ¬ r < 128 := by omega
  have g3 : (0 : Int) ≤ r := by omega
  have hS : (⟨#[64, 37, 43, 61, 58, 44, 46, 47, 95, 45]⟩ : ByteArray)[1] = 37 := rfl
  have hne : ((37 : Int) != (rs[1].toNat : Int)) = true := by rw [bne_iff_ne]; omega
  have htn := tail1_none rs[1] hl
  go_enter Tryd.func34, Tryd.ntmps34
  go_wp2_with (go_at_call 42; refine (Tryd.utf8_ValidRune _ _).mono ?_; rintro e w' ⟨rfl, rfl⟩)
  go_step3
  go_wp2_with fail
  refine wp_loop_rounds 1 ?_
  rw [rounds_succ]
  go_wp2_with fail
  go_step3
  go_wp2_with fail
  go_quiet (fail)
  have hb1 : Below w'.heap.size w' (w'.drewN nq) := below_drewNg w' nq
  generalize w'.drewN nq = w1 at hb1 ⊢
  go_wp2_with fail
  have hw2 : IntKind.i64.wrap 2 = 2 := by decide
  have hsl : ∀ W, (Instr.slice 9 (.string ⟨#[64, 37, 43, 61, 58, 44, 46, 47, 95, 45]⟩) (some (.int .i64 2)) none none).run Tryd.prog W = .ok (.string ⟨#[43, 61, 58, 44, 46, 47, 95, 45]⟩) W := fun W => by
    rw [run_slice_string_l W 9 _ Tryd.underlying9 .i64 2 (by decide) (by decide)]; rfl
  go_quiet ((go_at_call 41; exact Calls.quiet_of_same (Tryd.strings_IndexByte _ _ _)))
  have hb2 : Below w1.heap.size w1 (w1.drewN nq) := below_drewNg w1 nq
  generalize w1.drewN nq = w2 at hb2 ⊢
  go_wp2_with fail
  rw [Exit.noGoto_ret]
  go_wp2_with fail
  rw [Exit.noGoto_ret]
  go_wp2_with fail
  go_ret
  exact ⟨rfl, hb1.trans (hb2.mono hb1.size)⟩
theorem tail2_none (c : UInt8) (h : 128 ≤ (c.toNat : Int)) : Lib.indexByte [61, 58, 44, 46, 47, 95, 45] c = -1 := by
  have hb : ∀ x : UInt8, x.toNat < 128 → (x == c) = false := fun x hx => by
    rw [beq_eq_false_iff_ne]; intro e; subst e; omega
  simp [Lib.indexByte, hb]
set_option maxRecDepth 100000 in
set_option maxHeartbeats 1000000 in
theorem indexRune_good2 (r : Int) (w : World) (h0 : 128 ≤ r) (h1 : r ≠ 65533) (hv : Lib.validRune r = true) (rs : ByteArray) (hrs : Utf8.encode r = rs) (hz : rs.size = 3) (hl : 128 ≤ (rs[2].toNat : Int)) :
    Calls Tryd.prog 34 #[.string ⟨#[64, 37, 43, 61, 58, 44, 46, 47, 95, 45]⟩, .int .i32 r] w fun e w' => e = .returned (.int .i64 (-1)) ∧ Below w.heap.size w w' := by
  have g1 : (r == 65533) = false := beq_eq_false_iff_ne.2 h1
  have g2 : ¬ r < 128 := by omega
  have g3 : (0 : Int) ≤ r := by omega
  have hS : (⟨#[64, 37, 43, 61, 58, 44, 46, 47, 95, 45]⟩ : ByteArray)[2] = 43 := rfl
  have hne : ((43 : Int) != (rs[2].toNat : Int)) = true := by rw [bne_iff_ne]; omega
  have htn := tail2_none rs[2] hl
  go_enter Tryd.func34, Tryd.ntmps34
  go_wp2_with (go_at_call 42; refine (Tryd.utf8_ValidRune _ _).mono ?_; rintro e w' ⟨rfl, rfl⟩)
  go_step3
  go_wp2_with fail
  refine wp_loop_rounds 1 ?_
  rw [rounds_succ]
  go_wp2_with fail
  go_step3
  go_wp2_with fail
  go_quiet (fail)
  have hb1 : Below w'.heap.size w' (w'.drewN nq) := below_drewNg w' nq
  generalize w'.drewN nq = w1 at hb1 ⊢
  go_wp2_with fail
  have hw2 : IntKind.i64.wrap 3 = 3 := by decide
  have hsl : ∀ W, (Instr.slice 9 (.string ⟨#[64, 37, 43, 61, 58, 44, 46, 47, 95, 45]⟩) (some (.int .i64 3)) none none).run Tryd.prog W = .ok (.string ⟨#[61, 58, 44, 46, 47, 95, 45]⟩) W := fun W => by
    rw [run_slice_string_l W 9 _ Tryd.underlying9 .i64 3 (by decide) (by decide)]; rfl
  go_quiet ((go_at_call 41; exact Calls.quiet_of_same (Tryd.strings_IndexByte _ _ _)))
  have hb2 : Below w1.heap.size w1 (w1.drewN nq) := below_drewNg w1 nq
  generalize w1.drewN nq = w2 at hb2 ⊢
  go_wp2_with fail
  rw [Exit.noGoto_ret]
  go_wp2_with fail
  rw [Exit.noGoto_ret]
  go_wp2_with fail
  go_ret
  exact ⟨rfl, hb1.trans (hb2.mono hb1.size)⟩
theorem tail3_none (c : UInt8) (h : 128 ≤ (c.toNat : Int)) : Lib.indexByte [58, 44, 46, 47, 95, 45] c = -1 := by
  have hb : ∀ x : UInt8, x.toNat < 128 → (x == c) = false := fun x hx => by
    rw [beq_eq_false_iff_ne]; intro e; subst e; omega
  simp [Lib.indexByte, hb]
set_option maxRecDepth 100000 in
set_option maxHeartbeats 1000000 in
theorem indexRune_good3 (r : Int) (w : World) (h0 : 128 ≤ r) (h1 : r ≠ 65533) (hv : Lib.validRune r = true) (rs : ByteArray) (hrs : Utf8.encode r = rs) (hz : rs.size = 4) (hl : 128 ≤ (rs[3].toNat : Int)) :
    Calls Tryd.prog 34 #[.string ⟨#[64, 37, 43, 61, 58, 44, 46, 47, 95, 45]⟩, .int .i32 r] w fun e w' => e = .returned (.int .i64 (-1)) ∧ Below w.heap.size w w' := by
  have g1 : (r == 65533) = false := beq_eq_false_iff_ne.2 h1
  have g2 : ¬ r < 128 := by omega
  have g3 : (0 : Int) ≤ r := by omega
  have hS : (⟨#[64, 37, 43, 61, 58, 44, 46, 47, 95, 45]⟩ : ByteArray)[3] = 61 := rfl
  have hne : ((61 : Int) != (rs[3].toNat : Int)) = true := by rw [bne_iff_ne]; omega
  have htn := tail3_none rs[3] hl
  go_enter Tryd.func34, Tryd.ntmps34
  go_wp2_with (go_at_call 42; refine (Tryd.utf8_ValidRune _ _).mono ?_; rintro e w' ⟨rfl, rfl⟩)
  go_step3
  go_wp2_with fail
  refine wp_loop_rounds 1 ?_
  rw [rounds_succ]
  go_wp2_with fail
  go_step3
  go_wp2_with fail
  go_quiet (fail)
  have hb1 : Below w'.heap.size w' (w'.drewN nq) := below_drewNg w' nq
  generalize w'.drewN nq = w1 at hb1 ⊢
  go_wp2_with fail
  have hw2 : IntKind.i64.wrap 4 = 4 := by decide
  have hsl : ∀ W, (Instr.slice 9 (.string ⟨#[64, 37, 43, 61, 58, 44, 46, 47, 95, 45]⟩) (some (.int .i64 4)) none none).run Tryd.prog W = .ok (.string ⟨#[58, 44, 46, 47, 95, 45]⟩) W := fun W => by
    rw [run_slice_string_l W 9 _ Tryd.underlying9 .i64 4 (by decide) (by decide)]; rfl
  go_quiet ((go_at_call 41; exact Calls.quiet_of_same (Tryd.strings_IndexByte _ _ _)))
  have hb2 : Below w1.heap.size w1 (w1.drewN nq) := below_drewNg w1 nq
  generalize w1.drewN nq = w2 at hb2 ⊢
  go_wp2_with fail
  rw [Exit.noGoto_ret]
  go_wp2_with fail
  rw [Exit.noGoto_ret]
  go_wp2_with fail
  go_ret
  exact ⟨rfl, hb1.trans (hb2.mono hb1.size)⟩
end Go.Proofs.Qxb6600464aDoor
