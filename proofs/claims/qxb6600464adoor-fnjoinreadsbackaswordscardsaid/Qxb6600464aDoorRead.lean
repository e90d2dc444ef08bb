/-
  zzReadWords, at a line of quoted words.
-/
import Derived.Test.Qxb6600464aDoorDol2
import Derived.Deep.DeepFit
namespace Go.Proofs.Qxb6600464aDoor
open Go.RowKit Sw

def mk (l : List UInt8) : ByteArray := ⟨l.toArray⟩
theorem drop_nil (s : ByteArray) (i : Nat) (h : s.data.toList.drop i = []) : ¬ i < s.size := by
  have := List.drop_eq_nil_iff.1 h
  simpa using this
theorem ownsRow_empty (w : World) (B : Nat) (hB : B ≤ w.heap.size) : (w.alloc (.cells #[] 5)).ownsRow B 5 1 (.slice (some ⟨w.heap.size, 0, none⟩) 0 0) 0 (bcs []) :=
  ⟨rfl, .inr ⟨w.heap.size, 0, #[], rfl, hB, by show (w.heap.push _)[w.heap.size]? = _; simp, Nat.le_refl _, by unfold maxLen; omega, rfl, rfl⟩⟩

theorem start_byte (t : List UInt8) (r : List UInt8) : ∃ c r', quote t ++ r = c :: r' ∧ c ≠ 32 := by
  rw [← pieces_texts]
  cases hp : pieces t with
  | nil => exact absurd hp (pieces_ne t)
  | cons p ps =>
    obtain ⟨c, r', h1, h2⟩ := text_head p (pieces_ok t p (by rw [hp]; exact List.mem_cons_self))
    exact ⟨c, r' ++ texts ps ++ r, by rw [texts_cons, h1]; simp, h2⟩

/-- What lies behind a word: nothing, or a blank. -/
theorem behind_cases (ts : List (List UInt8)) : behind ts = [] ∨ ∃ r, behind ts = 32 :: r := by
  cases ts with
  | nil => exact .inl rfl
  | cons t ts => exact .inr ⟨quote t ++ behind ts, rfl⟩

theorem byte_ne (c : UInt8) (n : Nat) (h : c ≠ UInt8.ofNat n) : ((c.toNat : Int) == (n : Int)) = false := by
  rw [beq_eq_false_iff_ne]
  intro e
  apply h
  have : c.toNat = n := by omega
  rw [← this]
  simp
theorem byte_bne (c : UInt8) (n : Nat) (h : c ≠ UInt8.ofNat n) : ((c.toNat : Int) != (n : Int)) = true := by
  have := byte_ne c n h
  simp [bne, this]

theorem esc1_self (c : UInt8) (h : esc1 c = [c]) : c ≠ 92 ∧ c ≠ 39 := by
  constructor
  · rintro rfl; revert h; decide
  · rintro rfl; revert h; decide
theorem esc1_esc (c : UInt8) (h : esc1 c ≠ [c]) : ∃ x tl, esc1 c = 92 :: x :: tl := by
  rcases esc1_kinds c with ⟨h1, _⟩ | ⟨h1, _⟩ | ⟨x, h1, _⟩ | ⟨d, h1, _⟩
  · exact absurd h1 h
  · exact ⟨_, _, h1⟩
  · exact ⟨_, _, h1⟩
  · exact ⟨_, _, h1⟩
def startG (ws : List (List UInt8)) : Nat := match ws with | [] => 0 | _ :: ts => 2 * ts.length + 1

set_option maxHeartbeats 4000000 in
set_option maxRecDepth 100000 in
theorem readWords_any (s : ByteArray) (w : World) (ws : List (List UInt8)) (hs : s.size ≤ 100000000) (hws : ws.length ≤ 100000000) (h : s.data.toList = line ws) :
    Calls Tryd.prog 8 #[.string s] w fun e w' => ∃ v, e = .returned (.tuple #[v, .bool true]) ∧ w'.ownsRow w.heap.size 9 1 v ws.length (scs (ws.map mk)) ∧ Below w.heap.size w w' := by
  have H : Hid (s.data.toList = line ws) := h
  clear h
  go_enter Tryd.func8, Tryd.ntmps8
  go_wp2_with fail
  go_loopg [4, 6] (startG ws) (fun g v4 v6 wr => ∃ (i : Nat) (done todo : List (List UInt8)), v6 = .int .i64 i ∧ ws = done ++ todo ∧
      ((s.data.toList.drop i = behind todo ∧ g = 2 * todo.length) ∨ ∃ t ts, todo = t :: ts ∧ s.data.toList.drop i = quote t ++ behind ts ∧ g = 2 * ts.length + 1) ∧
      wr.ownsRow w.heap.size 9 1 v4 done.length (scs (done.map mk)) ∧ Below w.heap.size w wr)
  case atStart =>
    refine ⟨0, [], ws, rfl, rfl, ?_, World.ownsRow_nil _ _ _ _, Below.refl _ _⟩
    rw [List.drop_zero, H.out]
    cases ws with
    | nil => exact .inl ⟨rfl, rfl⟩
    | cons t ts => exact .inr ⟨t, ts, rfl, rfl, rfl⟩
  case round =>
    obtain ⟨i, done, todo, rfl, hwd, hrest, hown4, hb⟩ := hrel
    have HW : Hid (ws = done ++ todo) := hwd
    clear hwd
    have hdl : done.length ≤ 100000000 := by have := HW.out; rw [this] at hws; simp at hws; omega
    rcases hrest with ⟨hr, hg⟩ | ⟨t, ts, htd, hr, hg⟩
    · cases todo with
      | nil =>
        have hi := drop_nil s i hr
        clear hr hg
        go_wp2_with fail
        go_ret2
        have e := HW.out
        rw [List.append_nil] at e
        rw [e]
        exact ⟨_, rfl, hown4, hb⟩
      | cons t ts =>
        obtain ⟨hp, hsi, hr2⟩ := at_drop s i 32 (quote t ++ behind ts) hr
        have HR : Hid _ := hr2
        have HG : Hid _ := hg
        clear hr hr2 hg
        go_wp2_with fail
        go_roundg (2 * ts.length + 1)
        case measure => have := HG.out; simp at this; omega
        case rel => exact ⟨i + 1, done, t :: ts, by go_num, HW.out, .inr ⟨t, ts, rfl, HR.out, rfl⟩, hown4, hb⟩
    · subst htd
      obtain ⟨c0, r0, hc0, hne0⟩ := start_byte t (behind ts)
      have hr1 := hr
      rw [hc0] at hr1
      obtain ⟨hp, hsi, _⟩ := at_drop s i c0 r0 hr1
      have hn32 : ((c0.toNat : Int) == 32) = false := byte_ne c0 32 hne0
      have HR : Hid _ := hr
      have HG : Hid _ := hg
      clear hr hr1 hc0 hg
      have hsz := hb.size
      go_wp2_with fail
      go_loopg [6, 7] (pieces t).length (fun g v6 v7 wx => ∃ (j : Nat) (ps1 ps2 : List Piece), v6 = .int .i64 j ∧ pieces t = ps1 ++ ps2 ∧ g = ps2.length ∧ s.data.toList.drop j = texts ps2 ++ behind ts ∧ (vals ps1).length ≤ j ∧
          wx.ownsRow w.heap.size 5 1 v7 (vals ps1).length (bcs (vals ps1)) ∧ wx.ownsRow w.heap.size 9 1 u4 done.length (scs (done.map mk)) ∧ Below w.heap.size w wx)
      case atStart => exact ⟨i, [], pieces t, rfl, rfl, rfl, by rw [HR.out, pieces_texts], by simp [vals], ownsRow_empty wr _ hsz, hown4.alloc _, hb.alloc hsz _⟩
      case round =>
        clear hn32 hsi hp hsz hown4 hb hne0 HR
        obtain ⟨j, ps1, ps2, rfl, hps, hgk, hrj, hlj, ho7, ho4, hbx⟩ := hrel
        have hszx := hbx.size
        have HP : Hid (pieces t = ps1 ++ ps2) := hps
        have HM : Hid _ := hgk
        clear hps hgk
        cases ps2 with
        | nil =>
          have hv : vals ps1 = t := by
            have := HP.out
            rw [List.append_nil] at this
            rw [← this, pieces_vals]
          rw [hv] at ho7
          clear hv hlj
          have hcv := conv_row Tryd.underlying33 Tryd.underlying5 Tryd.underlying9 ho7
          have HJ : Hid (s.data.toList.drop j = behind ts) := hrj
          clear hrj
          have hend : (¬ j < s.size) ∨ ∃ hp : j < s.size, s[j] = 32 := by
            rcases behind_cases ts with hbn | ⟨r, hbr⟩
            · exact .inl (drop_nil s j (HJ.out.trans hbn))
            · obtain ⟨hp, e, _⟩ := at_drop s j 32 r (HJ.out.trans hbr)
              exact .inr ⟨hp, e⟩
          rcases hend with hend | ⟨hpj, hsj⟩
          · go_wp2_with (at_builtin; refine wpList_appS (P := Tryd.prog) Tryd.underlying23 Tryd.info9 _ rfl _ _ rfl w.heap.size _ done.length (done.map mk) rfl ho4 hszx ⟨t.toArray⟩ rfl (by omega) ?_)
            intro v' w' ho hb' _
            clear hcv
            go_wp2_with fail
            go_roundg (2 * ts.length)
            case measure => have := HG.out; omega
            case rel => exact ⟨j, done ++ [t], ts, rfl, by rw [HW.out]; simp, .inl ⟨HJ.out, rfl⟩, by simpa [mk] using ho, hbx.trans hb'⟩
          · go_wp2_with (at_builtin; refine wpList_appS (P := Tryd.prog) Tryd.underlying23 Tryd.info9 _ rfl _ _ rfl w.heap.size _ done.length (done.map mk) rfl ho4 hszx ⟨t.toArray⟩ rfl (by omega) ?_)
            intro v' w' ho hb' _
            clear hcv
            go_wp2_with fail
            go_roundg (2 * ts.length)
            case measure => have := HG.out; omega
            case rel => exact ⟨j, done ++ [t], ts, rfl, by rw [HW.out]; simp, .inl ⟨HJ.out, rfl⟩, by simpa [mk] using ho, hbx.trans hb'⟩
        | cons p ps2 =>
          have hok := pieces_ok t p (by rw [HP.out]; simp)
          have hp2 : pieces t = (ps1 ++ [p]) ++ ps2 := by rw [HP.out]; simp
          have HP2 : Hid _ := hp2
          clear hp2
          obtain ⟨T, HT⟩ : ∃ T, Hid (texts ps2 ++ behind ts = T) := ⟨_, rfl⟩
          have hrj2 : s.data.toList.drop j = Piece.text p ++ T := by rw [hrj, texts_cons, List.append_assoc, HT.out]
          have hvs : vals (ps1 ++ [p]) = vals ps1 ++ p.2 := by simp [vals]
          have HV : Hid _ := hvs
          clear hrj hvs
          obtain ⟨L, HL⟩ : ∃ L, Hid (vals ps1 = L) := ⟨_, rfl⟩
          rw [HL.out] at hlj ho7
          obtain ⟨k, l⟩ := p
          rcases hok with ⟨rfl, c, rfl, hsafe⟩ | ⟨rfl, hno⟩ | ⟨rfl, hno⟩ | rfl
          · -- a bare byte
            obtain ⟨hpj, hsj, hr2⟩ := at_drop s j c T hrj2
            have HR2 : Hid _ := hr2
            clear hrj2 hr2
            have g1 : ((c.toNat : Int) != 32) = true := byte_bne c 32 (by rintro rfl; revert hsafe; decide)
            have g2 : ((c.toNat : Int) == 39) = false := byte_ne c 39 (by rintro rfl; revert hsafe; decide)
            have g3 : ((c.toNat : Int) == 34) = false := byte_ne c 34 (by rintro rfl; revert hsafe; decide)
            have g4 : ((c.toNat : Int) == 36) = false := byte_ne c 36 (by rintro rfl; revert hsafe; decide)
            go_wp2_with (first
              | (go_at_call 19; refine (zzSafe_yes c _ hsafe).mono ?_; rintro e w' ⟨rfl, rfl⟩)
              | (at_builtin; refine wpList_appB (P := Tryd.prog) Tryd.underlying33 Tryd.info5 _ rfl _ _ rfl _ _ L.length L rfl ho7 hszx _ (one c) rfl 1 rfl rfl (by omega) ?_))
            intro v' w' ho hb' hg
            have ho4' := keep_other (by decide) (ho7.alloc _) (ho4.alloc _) hg
            clear hg
            go_wp2_with fail
            go_roundg ps2.length
            case measure => have := HM.out; simp at this; omega
            case rel => exact ⟨j + 1, ps1 ++ [(0, [c])], ps2, by go_num, HP2.out, rfl, by rw [HR2.out, HT.out], by rw [HV.out, HL.out]; simp; omega, by rw [HV.out, HL.out, List.length_append]; exact ho, ho4', hbx.trans hb'⟩
          · -- kind 1
            obtain ⟨hpj, hsj, hr2⟩ := at_drop s j 39 (l ++ 39 :: T) (hrj2.trans (by simp [Piece.text]))
            have HR2 : Hid _ := hr2
            have HN : Hid _ := hno
            clear hrj2 hr2 hno
            go_wp2_with fail
            go_loopg [7, 9] l.length (fun g v7 vq wy => ∃ (q : Nat) (l1 l2 : List UInt8), vq = .int .i64 q ∧ l = l1 ++ l2 ∧ g = l2.length ∧ s.data.toList.drop q = l2 ++ 39 :: T ∧ L.length + l1.length ≤ q ∧
                wy.ownsRow w.heap.size 5 1 v7 (L.length + l1.length) (bcs (L ++ l1)) ∧ wy.ownsRow w.heap.size 9 1 u4 done.length (scs (done.map mk)) ∧ Below w.heap.size w wy)
            case atStart => exact ⟨j + 1, [], l, by go_num, rfl, rfl, HR2.out, by simp; omega, by simpa using ho7, ho4, hbx⟩
            case round =>
              clear hsj hpj ho7 ho4 hbx hszx HR2
              obtain ⟨q, l1, l2, rfl, hl, hgk, hrq, hlq, hq7, hq4, hbq⟩ := hrel
              have hszq := hbq.size
              have HLL : Hid _ := hl
              have HQ : Hid _ := hgk
              clear hl hgk
              cases l2 with
              | nil =>
                obtain ⟨hpq, hsq, hr3⟩ := at_drop s q 39 T hrq
                have HR3 : Hid _ := hr3
                clear hrq hr3
                go_wp2_with fail
                go_roundg ps2.length
                case measure => have := HM.out; simp at this; omega
                case rel =>
                  have e : l1 = l := by have := HLL.out; rw [List.append_nil] at this; exact this.symm
                  rw [e] at hq7 hlq
                  exact ⟨q + 1, ps1 ++ [(1, l)], ps2, by go_num, HP2.out, rfl, by rw [HR3.out, HT.out], by rw [HV.out, HL.out]; simp; omega, by rw [HV.out, HL.out, List.length_append]; exact hq7, hq4, hbq⟩
              | cons c l2 =>
                obtain ⟨hpq, hsq, hr3⟩ := at_drop s q c (l2 ++ 39 :: T) hrq
                have HR3 : Hid _ := hr3
                clear hrq hr3
                have hcc := HN.out c (by rw [HLL.out]; simp)
                have g1 : ((c.toNat : Int) != 39) = true := byte_bne c 39 hcc
                clear hcc
                go_wp2_with (at_builtin; refine wpList_appB (P := Tryd.prog) Tryd.underlying33 Tryd.info5 _ rfl _ _ rfl _ _ (L.length + l1.length) (L ++ l1) rfl hq7 hszq _ (one c) rfl 1 rfl rfl (by omega) ?_)
                intro v' w' ho hb' hg
                have ho4' := keep_other (by decide) (hq7.alloc _) (hq4.alloc _) hg
                clear hg
                go_wp2_with fail
                go_roundg l2.length
                case measure => have := HQ.out; simp at this; omega
                case rel => exact ⟨q + 1, l1 ++ [c], l2, by go_num, by rw [HLL.out]; simp, rfl, HR3.out, by simp; omega, by rw [List.length_append, ← Nat.add_assoc]; exact ho, ho4', hbq.trans hb'⟩
          · -- kind 2
            obtain ⟨hpj, hsj, hr2⟩ := at_drop s j 34 (l ++ 34 :: T) (hrj2.trans (by simp [Piece.text]))
            have HR2 : Hid _ := hr2
            have HN : Hid _ := hno
            clear hrj2 hr2 hno
            go_wp2_with fail
            go_loopg [7, 10] l.length (fun g v7 vq wy => ∃ (q : Nat) (l1 l2 : List UInt8), vq = .int .i64 q ∧ l = l1 ++ l2 ∧ g = l2.length ∧ s.data.toList.drop q = l2 ++ 34 :: T ∧ L.length + l1.length ≤ q ∧
                wy.ownsRow w.heap.size 5 1 v7 (L.length + l1.length) (bcs (L ++ l1)) ∧ wy.ownsRow w.heap.size 9 1 u4 done.length (scs (done.map mk)) ∧ Below w.heap.size w wy)
            case atStart => exact ⟨j + 1, [], l, by go_num, rfl, rfl, HR2.out, by simp; omega, by simpa using ho7, ho4, hbx⟩
            case round =>
              clear hsj hpj ho7 ho4 hbx hszx HR2
              obtain ⟨q, l1, l2, rfl, hl, hgk, hrq, hlq, hq7, hq4, hbq⟩ := hrel
              have hszq := hbq.size
              have HLL : Hid _ := hl
              have HQ : Hid _ := hgk
              clear hl hgk
              cases l2 with
              | nil =>
                obtain ⟨hpq, hsq, hr3⟩ := at_drop s q 34 T hrq
                have HR3 : Hid _ := hr3
                clear hrq hr3
                go_wp2_with fail
                go_roundg ps2.length
                case measure => have := HM.out; simp at this; omega
                case rel =>
                  have e : l1 = l := by have := HLL.out; rw [List.append_nil] at this; exact this.symm
                  rw [e] at hq7 hlq
                  exact ⟨q + 1, ps1 ++ [(2, l)], ps2, by go_num, HP2.out, rfl, by rw [HR3.out, HT.out], by rw [HV.out, HL.out]; simp; omega, by rw [HV.out, HL.out, List.length_append]; exact hq7, hq4, hbq⟩
              | cons c l2 =>
                obtain ⟨hpq, hsq, hr3⟩ := at_drop s q c (l2 ++ 34 :: T) hrq
                have HR3 : Hid _ := hr3
                clear hrq hr3
                have hcc := HN.out c (by rw [HLL.out]; simp)
                have g1 : ((c.toNat : Int) != 34) = true := byte_bne c 34 hcc.1
                have g2 : ((c.toNat : Int) == 92) = false := byte_ne c 92 hcc.2.1
                have g3 : ((c.toNat : Int) == 36) = false := byte_ne c 36 hcc.2.2.1
                have g4 : ((c.toNat : Int) == 96) = false := byte_ne c 96 hcc.2.2.2
                clear hcc
                go_wp2_with (at_builtin; refine wpList_appB (P := Tryd.prog) Tryd.underlying33 Tryd.info5 _ rfl _ _ rfl _ _ (L.length + l1.length) (L ++ l1) rfl hq7 hszq _ (one c) rfl 1 rfl rfl (by omega) ?_)
                intro v' w' ho hb' hg
                have ho4' := keep_other (by decide) (hq7.alloc _) (hq4.alloc _) hg
                clear hg
                go_wp2_with fail
                go_roundg l2.length
                case measure => have := HQ.out; simp at this; omega
                case rel => exact ⟨q + 1, l1 ++ [c], l2, by go_num, by rw [HLL.out]; simp, rfl, HR3.out, by simp; omega, by rw [List.length_append, ← Nat.add_assoc]; exact ho, ho4', hbq.trans hb'⟩
          · -- kind 3
            obtain ⟨hpj, hsj, hr2⟩ := at_drop s j 36 (39 :: escape l ++ 39 :: T) (hrj2.trans (by simp [Piece.text]))
            obtain ⟨hpj1, hsj1, hr3⟩ := at_drop s (j + 1) 39 (escape l ++ 39 :: T) hr2
            have HR2 : Hid _ := hr3
            clear hrj2 hr2 hr3
            go_wp2_with fail
            go_loopg [7, 11] l.length (fun g v7 vq wy => ∃ (q : Nat) (l1 l2 : List UInt8), vq = .int .i64 q ∧ l = l1 ++ l2 ∧ g = l2.length ∧ s.data.toList.drop q = escape l2 ++ 39 :: T ∧ L.length + l1.length ≤ q ∧
                wy.ownsRow w.heap.size 5 1 v7 (L.length + l1.length) (bcs (L ++ l1)) ∧ wy.ownsRow w.heap.size 9 1 u4 done.length (scs (done.map mk)) ∧ Below w.heap.size w wy)
            case atStart => exact ⟨j + 2, [], l, by go_num, rfl, rfl, HR2.out, by simp; omega, by simpa using ho7, ho4, hbx⟩
            case round =>
              clear hsj hpj hsj1 hpj1 ho7 ho4 hbx hszx HR2
              obtain ⟨q, l1, l2, rfl, hl, hgk, hrq, hlq, hq7, hq4, hbq⟩ := hrel
              have hszq := hbq.size
              have HLL : Hid _ := hl
              have HQ : Hid _ := hgk
              clear hl hgk
              cases l2 with
              | nil =>
                obtain ⟨hpq, hsq, hr3⟩ := at_drop s q 39 T hrq
                have HR3 : Hid _ := hr3
                clear hrq hr3
                go_wp2_with fail
                go_roundg ps2.length
                case measure => have := HM.out; simp at this; omega
                case rel =>
                  have e : l1 = l := by have := HLL.out; rw [List.append_nil] at this; exact this.symm
                  rw [e] at hq7 hlq
                  exact ⟨q + 1, ps1 ++ [(3, l)], ps2, by go_num, HP2.out, rfl, by rw [HR3.out, HT.out], by rw [HV.out, HL.out]; simp; omega, by rw [HV.out, HL.out, List.length_append]; exact hq7, hq4, hbq⟩
              | cons c l2 =>
                have hrq' : s.data.toList.drop q = esc1 c ++ (escape l2 ++ 39 :: T) := by rw [hrq]; simp [escape]
                clear hrq
                by_cases hbare : esc1 c = [c]
                · rw [hbare] at hrq'
                  obtain ⟨hpq, hsq, hr3⟩ := at_drop s q c (escape l2 ++ 39 :: T) hrq'
                  have HR3 : Hid _ := hr3
                  have hcc : c ≠ 92 ∧ c ≠ 39 := esc1_self c hbare
                  clear hrq' hr3 hbare
                  have g1 : ((c.toNat : Int) != 39) = true := byte_bne c 39 hcc.2
                  have g2 : ((c.toNat : Int) != 92) = true := byte_bne c 92 hcc.1
                  clear hcc
                  go_wp2_with (at_builtin; refine wpList_appB (P := Tryd.prog) Tryd.underlying33 Tryd.info5 _ rfl _ _ rfl _ _ (L.length + l1.length) (L ++ l1) rfl hq7 hszq _ (one c) rfl 1 rfl rfl (by omega) ?_)
                  intro v' w' ho hb' hg
                  have ho4' := keep_other (by decide) (hq7.alloc _) (hq4.alloc _) hg
                  clear hg
                  go_wp2_with fail
                  go_roundg l2.length
                  case measure => have := HQ.out; simp at this; omega
                  case rel => exact ⟨q + 1, l1 ++ [c], l2, by go_num, by rw [HLL.out]; simp, rfl, HR3.out, by simp; omega, by rw [List.length_append, ← Nat.add_assoc]; exact ho, ho4', hbq.trans hb'⟩
                · obtain ⟨x, tl, htl⟩ := esc1_esc c hbare
                  have hrq2 : s.data.toList.drop q = 92 :: (x :: tl ++ (escape l2 ++ 39 :: T)) := by rw [hrq', htl]; rfl
                  obtain ⟨hpq, hsq, hr3⟩ := at_drop s q 92 _ hrq2
                  obtain ⟨hpq1, _, _⟩ := at_drop s (q + 1) x (tl ++ (escape l2 ++ 39 :: T)) hr3
                  have hr4 : s.data.toList.drop (q + 1 + (tl.length + 1)) = escape l2 ++ 39 :: T := by
                    rw [← List.drop_drop, hr3]; simp
                  have c18 : ∀ w, Calls Tryd.prog 18 #[.string s, .int .i64 ((q : Int) + 1)] w fun e w' => e = .returned (.tuple #[.int .u8 (c.toNat : Int), .int .i64 ((tl.length : Int) + 1), .bool true]) ∧ w' = w := by
                    intro w
                    have := dollar_any s (q + 1) w hs c (escape l2 ++ 39 :: T) hbare (by rw [hr3, htl]; rfl)
                    rw [htl, show (((92 :: x :: tl : List UInt8).length - 1 : Nat) : Int) = (tl.length : Int) + 1 by simp, show ((q + 1 : Nat) : Int) = (q : Int) + 1 by simp] at this
                    exact this
                  have htlb : tl.length ≤ 4 := by have := (esc1_len c).2; rw [htl] at this; simp at this; omega
                  have HR3 : Hid _ := hr4
                  have C18 : Hid _ := c18
                  clear hrq' hrq2 hr3 hr4 c18 hbare htl
                  go_wp2_with (first
                    | (go_at_call 18; go_fit (C18.out _); rintro e w' ⟨rfl, rfl⟩)
                    | (at_builtin; refine wpList_appB (P := Tryd.prog) Tryd.underlying33 Tryd.info5 _ rfl _ _ rfl _ _ (L.length + l1.length) (L ++ l1) rfl hq7 hszq _ (one c) rfl 1 rfl rfl (by omega) ?_))
                  intro v' w' ho hb' hg
                  have ho4' := keep_other (by decide) (hq7.alloc _) (hq4.alloc _) hg
                  clear hg
                  go_wp2_with fail
                  go_roundg l2.length
                  case measure => have := HQ.out; simp at this; omega
                  case rel => exact ⟨q + 1 + (tl.length + 1), l1 ++ [c], l2, by go_num, by rw [HLL.out]; simp, rfl, HR3.out, by simp; omega, by rw [List.length_append, ← Nat.add_assoc]; exact ho, ho4', hbq.trans hb'⟩
end Go.Proofs.Qxb6600464aDoor
