/- The laws laws.FnValid, FnValidBegin, FnValidEnd return true for every label, where the transitions are as listed; nothing that was there is written. -/
import Derived.Test.YtoceibpgapjhcaaDoorRule
import Derived.Test.YtoceibpgapjhcaaDoorSpec2
import Derived.Test.YtoceibpgapjhcaaDoorPlain2
namespace Go.Proofs.YtoceibpgapjhcaaDoor
open Go.RowKit
set_option linter.unusedVariables false

def LawPost (w : World) (e : Ending) (w' : World) : Prop := e = .returned (.bool true) ∧ Below w.heap.size w w'

theorem valid_long (a : Option Addr) (n cap : Nat) (w : World) (h : 2147483647 < n) (hm : n ≤ 9223372036854775807) : Calls Tryd.prog 7 #[.slice a n cap] w (LawPost w) := by
  go_enter Tryd.func7, Tryd.ntmps7
  go_wp2
  go_ret
  exact ⟨rfl, Below.refl _ _⟩

theorem valid_short (a : Option Addr) (n cap : Nat) (L : List Int) (w : World) (h : Lab w (.slice a n cap) L) (hn : n ≤ 2147483647) (hT : TabAt w) : Calls Tryd.prog 7 #[.slice a n cap] w (LawPost w) := by
  have HH := Lib.hid h
  have HL := Lib.hid h.len
  have HV := Lib.hid (valid_conf L h.1)
  have HT := Lib.hid hT
  clear h hT
  by_cases hbig : 1000000 < n
  · go_enter Tryd.func7, Tryd.ntmps7
    go_wp2_with fail
    refine (rules_any _ HT.out).mono ?_
    rintro e w1 ⟨rfl, hb⟩
    have HB := Lib.hid hb; clear hb
    go_wp2
    go_ret
    exact ⟨rfl, HB.out⟩
  · go_enter Tryd.func7, Tryd.ntmps7
    go_wp2_with fail
    refine (rules_any _ HT.out).mono ?_
    rintro e w1 ⟨rfl, hb⟩
    have HB := Lib.hid hb; clear hb
    cases hil : isLab L
    · go_wp2_with (go_at_call 17; refine (isLabel_any _ L _ (HH.out.below HB.out) (by have := HL.out; omega)).mono ?_; rintro e w' ⟨rfl, rfl⟩)
      go_ret
      exact ⟨rfl, HB.out⟩
    · go_wp2_with (go_at_call 17; refine (isLabel_any _ L _ (HH.out.below HB.out) (by have := HL.out; omega)).mono ?_; rintro e w' ⟨rfl, rfl⟩)
      refine (valid_any _ _ _ L _ (HH.out.below HB.out) (by omega) (HT.out.below HB.out)).mono ?_
      rintro e w2 ⟨rfl, hb⟩
      have HB2 := Lib.hid (HB.out.trans (hb.mono HB.out.size)); clear hb
      rw [HV.out]
      go_wp2_with fail
      refine (conforms_any _ _ _ L _ (HH.out.below HB2.out) (by omega)).mono ?_
      rintro e w3 ⟨rfl, hb⟩
      have HB3 := Lib.hid (HB2.out.trans (hb.mono HB2.out.size)); clear hb
      go_wp2
      go_ret
      exact ⟨rfl, HB3.out⟩
end Go.Proofs.YtoceibpgapjhcaaDoor
