/-
  FnReadInvertsRender, from Read's contract at a canonical number's text.
-/
import Derived.Test.Qxb6606029aDoorForms
namespace Go.Proofs.Qxb6606029aDoor
open Go.RowKit

/-- The text of a canonical number. -/
def textOf (neg : Bool) (d x : ByteArray) : ByteArray := if 0 < d.size then (if neg then ⟨#[45]⟩ ++ (d ++ ⟨#[101]⟩ ++ x) else d ++ ⟨#[101]⟩ ++ x) else ⟨#[48]⟩

set_option maxHeartbeats 2000000 in
set_option maxRecDepth 100000 in
theorem lawR_core (neg : Bool) (d x : ByteArray) (w : World) (hd : d.size ≤ maxLen) (hx : x.size ≤ maxLen)
    (hR : ∀ w', Below w.heap.size w w' → d.size ≤ 524288 → x.size ≤ 524288 → CanN neg d.data.toList x.data.toList → Calls Tryd.prog 15 #[.string (textOf neg d x)] w' fun e w2 => e = .returned (.tuple #[.agg #[.bool neg, .string d, .string x], .bool true]) ∧ Below w.heap.size w w2) :
    Calls Tryd.prog 6 #[.bool neg, .string d, .string x] w fun e w' => e = .returned (.bool true) ∧ Below w.heap.size w w' := by
  have cB := bytes17_any neg d x w hd hx
  have HR : Hid _ := hR
  clear hR
  have hd' : d.size ≤ 9223372036854775807 := hd
  have hx' : x.size ≤ 9223372036854775807 := hx
  clear hd hx
  go_enter Tryd.func6, Tryd.ntmps6
  go_wp2_with (first | (go_at_call 17; go_fit cB; rintro e w' ⟨r, rfl, hr, hw⟩; replace hw := hw.symm; subst hw; have HR17 : Hid _ := hr; clear hr; refine Hid.out ?_) | fail)
  refine Lib.hid ?_
  clear cB
  cases r with
  | false =>
    clear HR17
    go_wp2_with fail
    go_ret
    exact ⟨rfl, Below.refl _ _⟩
  | true =>
    by_cases h1 : d.size ≤ 524288
    · by_cases h2 : x.size ≤ 524288
      · have cN := canN_any neg d x w (by omega) (by omega)
        go_wp2_with (first | (go_at_call 18; go_fit cN; rintro e w' ⟨r, rfl, hr, hw⟩; replace hw := hw.symm; subst hw; have HR18 : Hid _ := hr; clear hr; refine Hid.out ?_) | fail)
        refine Lib.hid ?_
        clear cN HR17
        cases r with
        | false =>
          clear HR18
          go_wp2_with fail
          go_ret
          exact ⟨rfl, Below.refl _ _⟩
        | true =>
          have hc := HR18.out rfl
          have cR := fun w' hw => HR.out w' hw h1 h2 hc
          clear HR18 HR
          by_cases h0 : 0 < d.size
          · have hne := toList_ne d h0
            cases neg with
            | false =>
              have ht : textOf false d x = d ++ ⟨#[101]⟩ ++ x := by
                unfold textOf
                rw [if_pos h0]
                rfl
              rw [ht] at cR
              go_wp2_with (first | (go_at_call 15; go_fit (cR _ (Below.refl _ _)); rintro e w' ⟨rfl, hb⟩) | fail)
              go_ret
              exact ⟨rfl, hb.alloc hb.size _⟩
            | true =>
              have ht : textOf true d x = ⟨#[45]⟩ ++ (d ++ ⟨#[101]⟩ ++ x) := by
                unfold textOf
                rw [if_pos h0]
                rfl
              rw [ht] at cR
              go_wp2_with (first | (go_at_call 15; go_fit (cR _ (Below.refl _ _)); rintro e w' ⟨rfl, hb⟩) | fail)
              go_ret
              exact ⟨rfl, hb.alloc hb.size _⟩
          · have he : d.data.toList = [] := List.length_eq_zero_iff.1 (by rw [← Lib.size_eq]; omega)
            rcases hc with ⟨_, hn, hxe⟩ | ⟨hne, _⟩
            · have hde : d = ⟨#[]⟩ := ByteArray.ext (Array.toList_inj.1 he)
              have hxx : x = ⟨#[48]⟩ := ByteArray.ext (Array.toList_inj.1 hxe)
              subst hn hde hxx
              have ht : textOf false ⟨#[]⟩ ⟨#[48]⟩ = ⟨#[48]⟩ := by
                unfold textOf
                rw [if_neg h0]
              rw [ht] at cR
              clear he hxe h0
              go_wp2_with (first | (go_at_call 15; go_fit (cR _ (Below.refl _ _)); rintro e w' ⟨rfl, hb⟩) | fail)
              go_ret
              exact ⟨rfl, hb.alloc hb.size _⟩
            · exact absurd he hne
      · go_wp2_with fail
        go_ret
        exact ⟨rfl, Below.refl _ _⟩
    · go_wp2_with fail
      go_ret
      exact ⟨rfl, Below.refl _ _⟩
end Go.Proofs.Qxb6606029aDoor
