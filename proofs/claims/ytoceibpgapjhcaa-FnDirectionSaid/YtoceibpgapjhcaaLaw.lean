/- The law 'laws.FnDirection' returns true for every slice of bytes, and writes nothing that was there. -/
import Derived.Test.YtoceibpgapjhcaaWalk
import Derived.Deep.RegionHeld3
namespace Go.Proofs.Ytoceibpgapjhcaa
open Go.RowKit
set_option linter.unusedVariables false

theorem law_long (a : Option Addr) (n cap : Nat) (w : World) (hn : 2147483647 < n) (hn2 : n ≤ 9223372036854775807) :
    Calls Try.prog 3 #[.slice a n cap] w fun e w' => e = .returned (.bool true) ∧ Below w.heap.size w w' := by
  go_enter Try.func3, Try.ntmps3
  go_wp2
  go_ret
  exact ⟨rfl, Below.refl _ _⟩

theorem law_short (a : Option Addr) (n cap : Nat) (L : List Int) (w : World) (h : Lab w (.slice a n cap) L) (hn : n ≤ 2147483647) :
    Calls Try.prog 3 #[.slice a n cap] w fun e w' => e = .returned (.bool true) ∧ Below w.heap.size w w' := by
  have hlen := h.len
  have hlt : w.heap.size ≤ w.heap.size := Nat.le_refl _
  have HH := Lib.hid h; clear h hlt
  have HL := Lib.hid hlen; clear hlen
  by_cases hbig : 1000000 < n
  · go_enter Try.func3, Try.ntmps3
    go_wp2_with fail
    refine (isRightToLeft_any _ 1 1 [1] _ (own_one w 1 (by omega) (by omega)).lab (by omega)).mono ?_
    rintro e w1 ⟨rfl, hb1⟩
    have HB1 := Lib.hid (((Below.refl w.heap.size w).alloc (Nat.le_refl _) (.cells #[.int .u8 1] 5)).trans (hb1.mono (by simp))); clear hb1
    rw [show isBk [1] = true from rfl]
    go_wp2_with fail
    refine (isRightToLeft_any _ 1 1 [0] _ (own_one w1 0 (by omega) (by omega)).lab (by omega)).mono ?_
    rintro e w2 ⟨rfl, hb2⟩
    have HB2 := Lib.hid ((HB1.out.alloc HB1.out.size (.cells #[.int .u8 0] 5)).trans (hb2.mono (by have := HB1.out.size; simp; omega))); clear hb2
    rw [show isBk [0] = false from rfl]
    go_wp2
    go_ret
    exact ⟨rfl, HB2.out⟩
  · cases hil : isLab L
    all_goals
      go_enter Try.func3, Try.ntmps3
      go_wp2_with fail
      refine (isRightToLeft_any _ 1 1 [1] _ (own_one w 1 (by omega) (by omega)).lab (by omega)).mono ?_
      rintro e w1 ⟨rfl, hb1⟩
      have HB1 := Lib.hid (((Below.refl w.heap.size w).alloc (Nat.le_refl _) (.cells #[.int .u8 1] 5)).trans (hb1.mono (by simp))); clear hb1
      rw [show isBk [1] = true from rfl]
      go_wp2_with fail
      refine (isRightToLeft_any _ 1 1 [0] _ (own_one w1 0 (by omega) (by omega)).lab (by omega)).mono ?_
      rintro e w2 ⟨rfl, hb2⟩
      have HB2 := Lib.hid ((HB1.out.alloc HB1.out.size (.cells #[.int .u8 0] 5)).trans (hb2.mono (by have := HB1.out.size; simp; omega))); clear hb2
      rw [show isBk [0] = false from rfl]
      go_wp2_with fail
      refine (isLabel_any _ L _ (HH.out.below HB2.out) (by have := HL.out; omega)).mono ?_
      rintro e w3 ⟨rfl, rfl⟩
    · go_wp2
      go_ret
      exact ⟨rfl, HB2.out⟩
    · rw [hil]
      go_wp2_with fail
      refine (isRightToLeft_any _ _ _ L _ (HH.out.below HB2.out) (by omega)).mono ?_
      rintro e w3 ⟨rfl, hb3⟩
      have HB3 := Lib.hid (HB2.out.trans (hb3.mono HB2.out.size)); clear hb3
      go_wp2_with fail
      refine (isBackAll_any _ L _ (HH.out.below HB3.out) (by have := HL.out; omega)).mono ?_
      rintro e w4 ⟨rfl, rfl⟩
      cases isBk L
      all_goals
        go_wp2
        go_ret
        exact ⟨rfl, HB3.out⟩
end Go.Proofs.Ytoceibpgapjhcaa
