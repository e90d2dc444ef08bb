/-
  decimal.Read's other ways: no exponent; zero behind an exponent; no number.
-/
import Derived.Test.Qxb6606029aDoorReadK
namespace Go.Proofs.Qxb6606029aDoor
open Go.RowKit Go.Joins

set_option maxHeartbeats 4000000 in
set_option maxRecDepth 100000 in
theorem read_num_nf (s : ByteArray) (u wh fr wf dg sg p : ByteArray) (n : Int) (b : Bool) (w : World)
    (hs : s.size ≤ 100000000) (hms : 0 < s.size) (neg : Bool) (hneg : ((s[0].toNat : Int) == 45) = neg)
    (cI : Ct (begun w) 26 #[.string s, .string ⟨#[101, 69]⟩] (.int .i64 (-1)))
    (cP : Ct (begun w) 27 #[.string s] (.bool true))
    (cT : Ct (begun w) 29 #[.string s, .string ⟨#[43, 45]⟩] (.string u)) (cK : Ct (begun w) 30 #[.string u, .string ⟨#[46]⟩] (.tuple #[.string wh, .string fr, .bool b]))
    (hwf : wh ++ fr = wf) (hwz : wh.size ≤ 100000000) (hfz : fr.size ≤ 100000000) (cL : Ct (begun w) 29 #[.string wf, .string ⟨#[48]⟩] (.string dg)) (cR : Ct (begun w) 31 #[.string dg, .string ⟨#[48]⟩] (.string sg))
    (hsg : 0 < sg.size) (hsz : sg.size ≤ 100000000) (hdz : dg.size ≤ 200000000) (hn : (dg.size : Int) - sg.size - fr.size = n) (cQ : Ct (begun w) 20 #[.string ⟨#[]⟩, .int .i64 n] (.string p)) :
    Calls Tryd.prog 15 #[.string s] w fun e w' => e = .returned (.tuple #[.agg #[.bool neg, .string sg, .string p], .bool true]) ∧ Below w.heap.size w w' := by
  have hne := toList_ne sg hsg
  have G : Below (begun w).heap.size (begun w) (begun w) := Below.refl _ _
  go_enter Tryd.func15, Tryd.ntmps15
  go_wp2_with (first | (go_at_call 26; go_fit (cI _ (by exact G)); rintro e w' ⟨rfl, G2⟩; clear G; have G := G2; clear G2) | (go_at_call 27; go_fit (cP _ (by exact G)); rintro e w' ⟨rfl, G2⟩; clear G; have G := G2; clear G2) | (go_at_call 29; first | (go_fit (cT _ (by exact G)); rintro e w' ⟨rfl, G2⟩; clear G; have G := G2; clear G2) | (go_fit (cL _ (by exact G)); rintro e w' ⟨rfl, G2⟩; clear G; have G := G2; clear G2)) | (go_at_call 30; go_fit (cK _ (by exact G)); rintro e w' ⟨rfl, G2⟩; clear G; have G := G2; clear G2) | (go_at_call 31; go_fit (cR _ (by exact G)); rintro e w' ⟨rfl, G2⟩; clear G; have G := G2; clear G2) | fail)
  have hm0 : (0 : Int) < (s.size : Int) := by omega
  clear cI cP cT cK cL cR hwf hwz hne
  have GH : Hid _ := G
  clear G
  have hwr : IntKind.i64.wrap (IntKind.i64.wrap ((dg.size : Int) - sg.size) - fr.size) = n := by
    rw [IntKind.wrap_i64, IntKind.wrap_i64, ← hn]
    omega
  have HWR : Hid _ := hwr
  clear hwr hn
  go_region_with (go_at_call 20; rw [HWR.out]; refine (cQ _ (by exact GH.out.drew)).mono ?_; rintro e w2 ⟨rfl, G2⟩; obtain ⟨k0, k1, k2, f0, f1, f2⟩ := begun_cells G2)
  all_goals
    have hb := (((begun_below G2).setCell (p := ⟨w.heap.size, 0, none⟩) (Nat.le_refl _) (.bool neg)).setCell (p := ⟨w.heap.size, 1, none⟩) (Nat.le_refl _) (.string sg)).setCell (p := ⟨w.heap.size, 2, none⟩) (Nat.le_refl _) (.string p)
    go_wp2_with fail
    exact bodyPost_ret (v := .tuple #[.agg #[.bool neg, .string sg, .string p], .bool true]) (by simp [results, Tryd.results15, go_sem, k0, k1, k2]) rfl ⟨rfl, hb⟩

set_option maxHeartbeats 4000000 in
set_option maxRecDepth 100000 in
theorem read_zero_f (s : ByteArray) (i : Nat) (m x u wh fr wf dg : ByteArray) (b : Bool) (w : World)
    (hs : s.size ≤ 100000000) (hi : i < s.size) (hm : s.extract 0 i = m) (hx : s.extract (i + 1) s.size = x)
    (cI : Ct (begun w) 26 #[.string s, .string ⟨#[101, 69]⟩] (.int .i64 i))
    (cP : Ct (begun w) 27 #[.string m] (.bool true)) (cX : Ct (begun w) 27 #[.string x] (.bool true)) (cC : Ct (begun w) 28 #[.string x, .string ⟨#[46]⟩] (.bool false))
    (cT : Ct (begun w) 29 #[.string m, .string ⟨#[43, 45]⟩] (.string u)) (cK : Ct (begun w) 30 #[.string u, .string ⟨#[46]⟩] (.tuple #[.string wh, .string fr, .bool b]))
    (hwf : wh ++ fr = wf) (hwz : wh.size ≤ 100000000) (hfz : fr.size ≤ 100000000) (cL : Ct (begun w) 29 #[.string wf, .string ⟨#[48]⟩] (.string dg)) (cR : Ct (begun w) 31 #[.string dg, .string ⟨#[48]⟩] (.string ⟨#[]⟩)) :
    Calls Tryd.prog 15 #[.string s] w fun e w' => e = .returned (.tuple #[.agg #[.bool false, .string ⟨#[]⟩, .string ⟨#[48]⟩], .bool true]) ∧ Below w.heap.size w w' := by
  have G : Below (begun w).heap.size (begun w) (begun w) := Below.refl _ _
  go_enter Tryd.func15, Tryd.ntmps15
  go_wp2_with (first | (go_at_call 26; go_fit (cI _ (by exact G)); rintro e w' ⟨rfl, G2⟩; clear G; have G := G2; clear G2) | fail)
  have hi1 : (i : Int) ≤ (s.size : Int) := by omega
  have hi2 : (i : Int) + 1 ≤ (s.size : Int) := by omega
  go_quiet (fail)
  have G2 := below_drewK G nq
  clear G
  generalize w'.drewN nq = wr at G2 ⊢
  have G := G2
  clear G2
  go_wp2_with (first | (go_at_call 27; first | (go_fit (cP _ (by exact G)); rintro e w' ⟨rfl, G2⟩; clear G; have G := G2; clear G2) | (go_fit (cX _ (by exact G)); rintro e w' ⟨rfl, G2⟩; clear G; have G := G2; clear G2)) | (go_at_call 28; go_fit (cC _ (by exact G)); rintro e w' ⟨rfl, G2⟩; clear G; have G := G2; clear G2) | (go_at_call 29; first | (go_fit (cT _ (by exact G)); rintro e w' ⟨rfl, G2⟩; clear G; have G := G2; clear G2) | (go_fit (cL _ (by exact G)); rintro e w' ⟨rfl, G2⟩; clear G; have G := G2; clear G2)) | (go_at_call 30; go_fit (cK _ (by exact G)); rintro e w' ⟨rfl, G2⟩; clear G; have G := G2; clear G2) | (go_at_call 31; go_fit (cR _ (by exact G)); rintro e w' ⟨rfl, G2⟩; clear G; have G := G2; clear G2; obtain ⟨k0, k1, k2, f0, f1, f2⟩ := begun_cells G) | fail)
  have hb := (((begun_below G).setCell (p := ⟨w.heap.size, 0, none⟩) (Nat.le_refl _) (.bool false)).setCell (p := ⟨w.heap.size, 1, none⟩) (Nat.le_refl _) (.string ⟨#[]⟩)).setCell (p := ⟨w.heap.size, 2, none⟩) (Nat.le_refl _) (.string ⟨#[48]⟩)
  exact bodyPost_ret (v := .tuple #[.agg #[.bool false, .string ⟨#[]⟩, .string ⟨#[48]⟩], .bool true]) (by simp [results, Tryd.results15, go_sem, k0, k1, k2]) rfl ⟨rfl, hb⟩

set_option maxHeartbeats 4000000 in
set_option maxRecDepth 100000 in
theorem read_bad_nf (s : ByteArray) (w : World)
    (cI : Ct (begun w) 26 #[.string s, .string ⟨#[101, 69]⟩] (.int .i64 (-1))) (cP : Ct (begun w) 27 #[.string s] (.bool false)) :
    Calls Tryd.prog 15 #[.string s] w fun e w' => e = .returned (.tuple #[.agg #[.bool false, .string ⟨#[]⟩, .string ⟨#[]⟩], .bool false]) ∧ Below w.heap.size w w' := by
  have G : Below (begun w).heap.size (begun w) (begun w) := Below.refl _ _
  go_enter Tryd.func15, Tryd.ntmps15
  go_wp2_with (first | (go_at_call 26; go_fit (cI _ (by exact G)); rintro e w' ⟨rfl, G2⟩; clear G; have G := G2; clear G2) | (go_at_call 27; go_fit (cP _ (by exact G)); rintro e w' ⟨rfl, G2⟩; clear G; have G := G2; clear G2; obtain ⟨k0, k1, k2, f0, f1, f2⟩ := begun_cells G) | fail)
  have hb := (((begun_below G).setCell (p := ⟨w.heap.size, 0, none⟩) (Nat.le_refl _) (.bool false)).setCell (p := ⟨w.heap.size, 1, none⟩) (Nat.le_refl _) (.string ⟨#[]⟩)).setCell (p := ⟨w.heap.size, 2, none⟩) (Nat.le_refl _) (.string ⟨#[]⟩)
  exact bodyPost_ret (v := .tuple #[.agg #[.bool false, .string ⟨#[]⟩, .string ⟨#[]⟩], .bool false]) (by simp [results, Tryd.results15, go_sem, k0, k1, k2]) rfl ⟨rfl, hb⟩

set_option maxHeartbeats 4000000 in
set_option maxRecDepth 100000 in
theorem read_bad_m (s : ByteArray) (i : Nat) (m x : ByteArray) (w : World)
    (hs : s.size ≤ 100000000) (hi : i < s.size) (hm : s.extract 0 i = m) (hx : s.extract (i + 1) s.size = x)
    (cI : Ct (begun w) 26 #[.string s, .string ⟨#[101, 69]⟩] (.int .i64 i))
    (cP : Ct (begun w) 27 #[.string m] (.bool false)) :
    Calls Tryd.prog 15 #[.string s] w fun e w' => e = .returned (.tuple #[.agg #[.bool false, .string ⟨#[]⟩, .string ⟨#[]⟩], .bool false]) ∧ Below w.heap.size w w' := by
  have G : Below (begun w).heap.size (begun w) (begun w) := Below.refl _ _
  go_enter Tryd.func15, Tryd.ntmps15
  go_wp2_with (first | (go_at_call 26; go_fit (cI _ (by exact G)); rintro e w' ⟨rfl, G2⟩; clear G; have G := G2; clear G2) | fail)
  have hi1 : (i : Int) ≤ (s.size : Int) := by omega
  have hi2 : (i : Int) + 1 ≤ (s.size : Int) := by omega
  go_quiet (fail)
  have G2 := below_drewK G nq
  clear G
  generalize w'.drewN nq = wr at G2 ⊢
  have G := G2
  clear G2
  go_wp2_with (first | (go_at_call 27; go_fit (cP _ (by exact G)); rintro e w' ⟨rfl, G2⟩; clear G; have G := G2; clear G2; obtain ⟨k0, k1, k2, f0, f1, f2⟩ := begun_cells G) | fail)
  have hb := (((begun_below G).setCell (p := ⟨w.heap.size, 0, none⟩) (Nat.le_refl _) (.bool false)).setCell (p := ⟨w.heap.size, 1, none⟩) (Nat.le_refl _) (.string ⟨#[]⟩)).setCell (p := ⟨w.heap.size, 2, none⟩) (Nat.le_refl _) (.string ⟨#[]⟩)
  exact bodyPost_ret (v := .tuple #[.agg #[.bool false, .string ⟨#[]⟩, .string ⟨#[]⟩], .bool false]) (by simp [results, Tryd.results15, go_sem, k0, k1, k2]) rfl ⟨rfl, hb⟩

set_option maxHeartbeats 4000000 in
set_option maxRecDepth 100000 in
theorem read_bad_x (s : ByteArray) (i : Nat) (m x : ByteArray) (w : World)
    (hs : s.size ≤ 100000000) (hi : i < s.size) (hm : s.extract 0 i = m) (hx : s.extract (i + 1) s.size = x)
    (cI : Ct (begun w) 26 #[.string s, .string ⟨#[101, 69]⟩] (.int .i64 i))
    (cP : Ct (begun w) 27 #[.string m] (.bool true)) (cX : Ct (begun w) 27 #[.string x] (.bool false)) :
    Calls Tryd.prog 15 #[.string s] w fun e w' => e = .returned (.tuple #[.agg #[.bool false, .string ⟨#[]⟩, .string ⟨#[]⟩], .bool false]) ∧ Below w.heap.size w w' := by
  have G : Below (begun w).heap.size (begun w) (begun w) := Below.refl _ _
  go_enter Tryd.func15, Tryd.ntmps15
  go_wp2_with (first | (go_at_call 26; go_fit (cI _ (by exact G)); rintro e w' ⟨rfl, G2⟩; clear G; have G := G2; clear G2) | fail)
  have hi1 : (i : Int) ≤ (s.size : Int) := by omega
  have hi2 : (i : Int) + 1 ≤ (s.size : Int) := by omega
  go_quiet (fail)
  have G2 := below_drewK G nq
  clear G
  generalize w'.drewN nq = wr at G2 ⊢
  have G := G2
  clear G2
  go_wp2_with (first | (go_at_call 27; first | (go_fit (cP _ (by exact G)); rintro e w' ⟨rfl, G2⟩; clear G; have G := G2; clear G2) | (go_fit (cX _ (by exact G)); rintro e w' ⟨rfl, G2⟩; clear G; have G := G2; clear G2; obtain ⟨k0, k1, k2, f0, f1, f2⟩ := begun_cells G)) | fail)
  have hb := (((begun_below G).setCell (p := ⟨w.heap.size, 0, none⟩) (Nat.le_refl _) (.bool false)).setCell (p := ⟨w.heap.size, 1, none⟩) (Nat.le_refl _) (.string ⟨#[]⟩)).setCell (p := ⟨w.heap.size, 2, none⟩) (Nat.le_refl _) (.string ⟨#[]⟩)
  exact bodyPost_ret (v := .tuple #[.agg #[.bool false, .string ⟨#[]⟩, .string ⟨#[]⟩], .bool false]) (by simp [results, Tryd.results15, go_sem, k0, k1, k2]) rfl ⟨rfl, hb⟩

set_option maxHeartbeats 4000000 in
set_option maxRecDepth 100000 in
theorem read_bad_c (s : ByteArray) (i : Nat) (m x : ByteArray) (w : World)
    (hs : s.size ≤ 100000000) (hi : i < s.size) (hm : s.extract 0 i = m) (hx : s.extract (i + 1) s.size = x)
    (cI : Ct (begun w) 26 #[.string s, .string ⟨#[101, 69]⟩] (.int .i64 i))
    (cP : Ct (begun w) 27 #[.string m] (.bool true)) (cX : Ct (begun w) 27 #[.string x] (.bool true)) (cC : Ct (begun w) 28 #[.string x, .string ⟨#[46]⟩] (.bool true)) :
    Calls Tryd.prog 15 #[.string s] w fun e w' => e = .returned (.tuple #[.agg #[.bool false, .string ⟨#[]⟩, .string ⟨#[]⟩], .bool false]) ∧ Below w.heap.size w w' := by
  have G : Below (begun w).heap.size (begun w) (begun w) := Below.refl _ _
  go_enter Tryd.func15, Tryd.ntmps15
  go_wp2_with (first | (go_at_call 26; go_fit (cI _ (by exact G)); rintro e w' ⟨rfl, G2⟩; clear G; have G := G2; clear G2) | fail)
  have hi1 : (i : Int) ≤ (s.size : Int) := by omega
  have hi2 : (i : Int) + 1 ≤ (s.size : Int) := by omega
  go_quiet (fail)
  have G2 := below_drewK G nq
  clear G
  generalize w'.drewN nq = wr at G2 ⊢
  have G := G2
  clear G2
  go_wp2_with (first | (go_at_call 27; first | (go_fit (cP _ (by exact G)); rintro e w' ⟨rfl, G2⟩; clear G; have G := G2; clear G2) | (go_fit (cX _ (by exact G)); rintro e w' ⟨rfl, G2⟩; clear G; have G := G2; clear G2)) | (go_at_call 28; go_fit (cC _ (by exact G)); rintro e w' ⟨rfl, G2⟩; clear G; have G := G2; clear G2; obtain ⟨k0, k1, k2, f0, f1, f2⟩ := begun_cells G) | fail)
  have hb := (((begun_below G).setCell (p := ⟨w.heap.size, 0, none⟩) (Nat.le_refl _) (.bool false)).setCell (p := ⟨w.heap.size, 1, none⟩) (Nat.le_refl _) (.string ⟨#[]⟩)).setCell (p := ⟨w.heap.size, 2, none⟩) (Nat.le_refl _) (.string ⟨#[]⟩)
  exact bodyPost_ret (v := .tuple #[.agg #[.bool false, .string ⟨#[]⟩, .string ⟨#[]⟩], .bool false]) (by simp [results, Tryd.results15, go_sem, k0, k1, k2]) rfl ⟨rfl, hb⟩

end Go.Proofs.Qxb6606029aDoor
