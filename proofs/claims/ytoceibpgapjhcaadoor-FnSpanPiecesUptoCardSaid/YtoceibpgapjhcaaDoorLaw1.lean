/- The laws laws.FnValid, FnValidBegin, FnValidEnd return true for every label, where the transitions are as listed; nothing that was there is written. -/
import Derived.Test.YtoceibpgapjhcaaDoorRule
import Derived.Test.YtoceibpgapjhcaaDoorSpec2
import Derived.Test.YtoceibpgapjhcaaDoorPlain2
namespace Go.Proofs.YtoceibpgapjhcaaDoor
open Go.RowKit
set_option linter.unusedVariables false

def LawPost (w : World) (e : Ending) (w' : World) : Prop := e = .returned (.bool true) ∧ Below w.heap.size w w'

theorem valid_long (a : Option Addr) (n cap : Nat) (w : World) (h : 2147483647 < n) (hm : n ≤ 9223372036854775807) : Calls Tryd.prog 7 #[.slice a n cap] w (LawPost w) := by
  go_enter Tryd.func7, Tryd.ntmps7
  go_wp2
  go_ret
  exact ⟨rfl, Below.refl _ _⟩

theorem valid_short (a : Option Addr) (n cap : Nat) (L : List Int) (w : World) (h : Lab w (.slice a n cap) L) (hn : n ≤ 2147483647) (hT : TabAt w) : Calls Tryd.prog 7 #[.slice a n cap] w (LawPost w) := by
  have HH := Lib.hid h
  have HL := Lib.hid h.len
  have HV := Lib.hid (valid_conf L h.1)
  have HT := Lib.hid hT
  clear h hT
  by_cases hbig : 1000000 < n
  · go_enter Tryd.func7, Tryd.ntmps7
    go_wp2_with fail
    refine (rules_any _ HT.out).mono ?_
    rintro e w1 ⟨rfl, hb⟩
    have HB := Lib.hid hb; clear hb
    go_wp2
    go_ret
    exact ⟨rfl, HB.out⟩
  · go_enter Tryd.func7, Tryd.ntmps7
    go_wp2_with fail
    refine (rules_any _ HT.out).mono ?_
    rintro e w1 ⟨rfl, hb⟩
    have HB := Lib.hid hb; clear hb
    cases hil : isLab L
    · go_wp2_with (go_at_call 17; refine (isLabel_any _ L _ (HH.out.below HB.out) (by have := HL.out; omega)).mono ?_; rintro e w' ⟨rfl, rfl⟩)
      go_ret
      exact ⟨rfl, HB.out⟩
    · go_wp2_with (go_at_call 17; refine (isLabel_any _ L _ (HH.out.below HB.out) (by have := HL.out; omega)).mono ?_; rintro e w' ⟨rfl, rfl⟩)
      refine (valid_any _ _ _ L _ (HH.out.below HB.out) (by omega) (HT.out.below HB.out)).mono ?_
      rintro e w2 ⟨rfl, hb⟩
      have HB2 := Lib.hid (HB.out.trans (hb.mono HB.out.size)); clear hb
      rw [HV.out]
      go_wp2_with fail
      refine (conforms_any _ _ _ L _ (HH.out.below HB2.out) (by omega)).mono ?_
      rintro e w3 ⟨rfl, hb⟩
      have HB3 := Lib.hid (HB2.out.trans (hb.mono HB2.out.size)); clear hb
      go_wp2
      go_ret
      exact ⟨rfl, HB3.out⟩

/-! FnValidBegin -/
theorem begin_long (a : Option Addr) (n cap : Nat) (w : World) (h : 2147483647 < n) (hm : n ≤ 9223372036854775807) : Calls Tryd.prog 8 #[.slice a n cap] w (LawPost w) := by
  go_enter Tryd.func8, Tryd.ntmps8
  go_wp2
  go_ret
  exact ⟨rfl, Below.refl _ _⟩

/-- The ways on which the label is not asked. -/
theorem begin_early (a : Option Addr) (n cap : Nat) (L : List Int) (w : World) (h : Lab w (.slice a n cap) L) (hn : n ≤ 2147483647) (hT : TabAt w) (hno : 1000000 < n ∨ isLab L = false ∨ isBk L = false) : Calls Tryd.prog 8 #[.slice a n cap] w (LawPost w) := by
  have HH := Lib.hid h
  have HL := Lib.hid h.len
  have HT := Lib.hid hT
  clear h hT
  by_cases hbig : 1000000 < n
  · clear hno
    go_enter Tryd.func8, Tryd.ntmps8
    go_wp2_with fail
    refine (rules_any _ HT.out).mono ?_
    rintro e w1 ⟨rfl, hb⟩
    have HB := Lib.hid hb; clear hb
    go_wp2
    go_ret
    exact ⟨rfl, HB.out⟩
  · cases hil : isLab L
    · clear hno
      go_enter Tryd.func8, Tryd.ntmps8
      go_wp2_with (go_at_call 17; refine (isLabel_any _ L _ HH.out (by have := HL.out; omega)).mono ?_; rintro e w' ⟨rfl, rfl⟩)
      refine (rules_any _ HT.out).mono ?_
      rintro e w1 ⟨rfl, hb⟩
      have HB := Lib.hid hb; clear hb
      go_wp2
      go_ret
      exact ⟨rfl, HB.out⟩
    · have hbk : isBk L = false := by
        rcases hno with h | h | h
        · exact absurd h hbig
        · rw [hil] at h; cases h
        · exact h
      clear hno
      go_enter Tryd.func8, Tryd.ntmps8
      go_wp2_with (first | (go_at_call 17; refine (isLabel_any _ L _ HH.out (by have := HL.out; omega)).mono ?_; rintro e w' ⟨rfl, rfl⟩) | (go_at_call 20; refine (isBackAll_any _ L _ HH.out (by have := HL.out; omega)).mono ?_; rintro e w' ⟨rfl, rfl⟩))
      refine (rules_any _ HT.out).mono ?_
      rintro e w1 ⟨rfl, hb⟩
      have HB := Lib.hid hb; clear hb
      go_wp2
      go_ret
      exact ⟨rfl, HB.out⟩

theorem begin_some (b off n cap : Nat) (L : List Int) (c : Int) (w : World) (h : Lab w (.slice (some ⟨b, off, none⟩) n cap) L) (h0 : 0 < n) (hn : ¬ 1000000 < n) (hT : TabAt w) (hil : isLab L = true) (hbk : isBk L = true)
    (hc : w.cell? ⟨b, off, none⟩ = some (.int .u8 c)) (hd : c = L.headD 0) : Calls Tryd.prog 8 #[.slice (some ⟨b, off, none⟩) n cap] w (LawPost w) := by
  have HH := Lib.hid h
  have HL := Lib.hid h.len
  have HT := Lib.hid hT
  have HD := Lib.hid hd
  have HV := Lib.hid (valid_conf L h.1)
  clear h hT hd
  cases e1 : (c == 1)
  · cases e13 : (c == 13)
    · have HX := Lib.hid (show valid L = false by
        rw [HV.out]
        have hl := HL.out
        have hdd := HD.out
        cases L with
        | nil => simp at hl; omega
        | cons x t =>
          simp at hdd; subst hdd
          exact begin_no c t hbk (by simpa using e1) (by simpa using e13))
      go_enter Tryd.func8, Tryd.ntmps8
      go_wp2_with (first | (go_at_call 17; refine (isLabel_any _ L _ HH.out (by have := HL.out; omega)).mono ?_; rintro e w' ⟨rfl, rfl⟩) | (go_at_call 20; refine (isBackAll_any _ L _ HH.out (by have := HL.out; omega)).mono ?_; rintro e w' ⟨rfl, rfl⟩))
      refine (rules_any _ HT.out).mono ?_
      rintro e w1 ⟨rfl, hb⟩
      have HB := Lib.hid hb; clear hb
      go_wp2_with fail
      refine (valid_any _ _ _ L _ (HH.out.below HB.out) (by omega) (HT.out.below HB.out)).mono ?_
      rintro e w2 ⟨rfl, hb⟩
      have HB2 := Lib.hid (HB.out.trans (hb.mono HB.out.size)); clear hb
      rw [HX.out]
      go_wp2
      go_ret
      exact ⟨rfl, HB2.out⟩
    · go_enter Tryd.func8, Tryd.ntmps8
      go_wp2_with (first | (go_at_call 17; refine (isLabel_any _ L _ HH.out (by have := HL.out; omega)).mono ?_; rintro e w' ⟨rfl, rfl⟩) | (go_at_call 20; refine (isBackAll_any _ L _ HH.out (by have := HL.out; omega)).mono ?_; rintro e w' ⟨rfl, rfl⟩))
      refine (rules_any _ HT.out).mono ?_
      rintro e w1 ⟨rfl, hb⟩
      have HB := Lib.hid hb; clear hb
      go_wp2
      go_ret
      exact ⟨rfl, HB.out⟩
  · go_enter Tryd.func8, Tryd.ntmps8
    go_wp2_with (first | (go_at_call 17; refine (isLabel_any _ L _ HH.out (by have := HL.out; omega)).mono ?_; rintro e w' ⟨rfl, rfl⟩) | (go_at_call 20; refine (isBackAll_any _ L _ HH.out (by have := HL.out; omega)).mono ?_; rintro e w' ⟨rfl, rfl⟩))
    refine (rules_any _ HT.out).mono ?_
    rintro e w1 ⟨rfl, hb⟩
    have HB := Lib.hid hb; clear hb
    go_wp2
    go_ret
    exact ⟨rfl, HB.out⟩

theorem begin_short (a : Option Addr) (n cap : Nat) (L : List Int) (w : World) (h : Lab w (.slice a n cap) L) (hn : n ≤ 2147483647) (hT : TabAt w) : Calls Tryd.prog 8 #[.slice a n cap] w (LawPost w) := by
  by_cases hno : 1000000 < n ∨ isLab L = false ∨ isBk L = false
  · exact begin_early a n cap L w h hn hT hno
  · have h1 : ¬ 1000000 < n := fun x => hno (.inl x)
    have h2 : isLab L = true := by cases e : isLab L with | true => rfl | false => exact absurd (.inr (.inl e)) hno
    have h3 : isBk L = true := by cases e : isBk L with | true => rfl | false => exact absurd (.inr (.inr e)) hno
    have hlen := h.len
    rcases h.2 with ⟨a', cap', hv, hL, _⟩ | ⟨b, off, cap', hv, h5, hc⟩
    · subst hL; simp [isBk] at h3
    · injection hv with e1 e2 e3
      subst e1
      exact begin_some b off n cap L (L[0]?.getD 0) w h (by omega) h1 hT h2 h3 (hc 0 h5) (by cases L <;> rfl)
end Go.Proofs.YtoceibpgapjhcaaDoor
