/- The law laws.FnValidJoined returns true for every two labels, where the transitions are as listed; nothing that was there is written. -/
import Derived.Test.YtoceibpgapjhcaaDoorLaw1
namespace Go.Proofs.YtoceibpgapjhcaaDoor
open Go.RowKit
set_option linter.unusedVariables false

/-! FnValidJoined -/
theorem joined_long (a : Option Addr) (n cap : Nat) (a' : Option Addr) (n' cap' : Nat) (w : World) (hm : n ≤ 9223372036854775807) (hm' : n' ≤ 9223372036854775807) (h : ¬ (n ≤ 2147483647 ∧ n' ≤ 2147483647)) :
    Calls Tryd.prog 10 #[.slice a n cap, .slice a' n' cap'] w (LawPost w) := by
  by_cases h1 : 2147483647 < n
  · go_enter Tryd.func10, Tryd.ntmps10
    go_wp2
    go_ret
    exact ⟨rfl, Below.refl _ _⟩
  · have h2 : 2147483647 < n' := by omega
    go_enter Tryd.func10, Tryd.ntmps10
    go_wp2
    go_ret
    exact ⟨rfl, Below.refl _ _⟩

set_option maxRecDepth 100000 in
set_option maxHeartbeats 2000000 in
theorem joined_short (a : Option Addr) (n cap : Nat) (a' : Option Addr) (n' cap' : Nat) (L M : List Int) (w : World) (h : Lab w (.slice a n cap) L) (h' : Lab w (.slice a' n' cap') M) (hn : n ≤ 2147483647) (hn' : n' ≤ 2147483647) (hT : TabAt w) :
    Calls Tryd.prog 10 #[.slice a n cap, .slice a' n' cap'] w (LawPost w) := by
  obtain ⟨i0, hi, hz0, hz1, hz2⟩ := info_parts info5
  have HH := Lib.hid h
  have HL := Lib.hid h.len
  have HI := Lib.hid h'
  have HM := Lib.hid h'.len
  have HT := Lib.hid hT
  have HV := Lib.hid (valid_conf L h.1)
  have HW := Lib.hid (valid_conf M h'.1)
  have HVW := Lib.hid (valid_conf (L ++ M) (h.1.append h'.1))
  clear h h' hT
  cases e1 : isLab L
  · go_enter Tryd.func10, Tryd.ntmps10
    go_wp2_with (go_at_call 17; refine (isLabel_any _ L _ HH.out (by have := HL.out; omega)).mono ?_; rintro e w' ⟨rfl, rfl⟩)
    refine (rules_any _ HT.out).mono ?_
    rintro e w1 ⟨rfl, hb⟩
    have HB := Lib.hid hb; clear hb
    go_wp2
    go_ret
    exact ⟨rfl, HB.out⟩
  go_enter Tryd.func10, Tryd.ntmps10
  go_wp2_with fail
  refine (isLabel_any _ L _ HH.out (by have := HL.out; omega)).mono ?_
  rintro e w' ⟨rfl, rfl⟩
  rw [e1]
  go_wp2_with fail
  refine (isLabel_any _ M _ HI.out (by have := HM.out; omega)).mono ?_
  rintro e w' ⟨rfl, rfl⟩
  cases e2 : isLab M
  · go_wp2_with fail
    refine (rules_any _ HT.out).mono ?_
    rintro e w1 ⟨rfl, hb⟩
    have HB := Lib.hid hb; clear hb
    go_wp2
    go_ret
    exact ⟨rfl, HB.out⟩
  go_wp2_with fail
  refine (isBackAll_any _ L _ HH.out (by have := HL.out; omega)).mono ?_
  rintro e w' ⟨rfl, rfl⟩
  cases e3 : isBk L
  · go_wp2_with fail
    refine (rules_any _ HT.out).mono ?_
    rintro e w1 ⟨rfl, hb⟩
    have HB := Lib.hid hb; clear hb
    go_wp2
    go_ret
    exact ⟨rfl, HB.out⟩
  go_wp2_with fail
  refine (isBackAll_any _ M _ HI.out (by have := HM.out; omega)).mono ?_
  rintro e w' ⟨rfl, rfl⟩
  cases e4 : isBk M
  · go_wp2_with fail
    refine (rules_any _ HT.out).mono ?_
    rintro e w1 ⟨rfl, hb⟩
    have HB := Lib.hid hb; clear hb
    go_wp2
    go_ret
    exact ⟨rfl, HB.out⟩
  have E3 := Lib.hid e3; clear e3
  have E4 := Lib.hid e4; clear e4
  clear e1 e2
  go_wp2_with fail
  refine (valid_any _ _ _ L _ HH.out (by omega) HT.out).mono ?_
  rintro e w1 ⟨rfl, hb⟩
  have HB1 := Lib.hid hb; clear hb
  rw [HV.out]
  cases e5 : conf L
  · go_wp2_with fail
    refine (rules_any _ (HT.out.below HB1.out)).mono ?_
    rintro e w2 ⟨rfl, hb⟩
    have HB := Lib.hid (HB1.out.trans (hb.mono HB1.out.size)); clear hb
    go_wp2
    go_ret
    exact ⟨rfl, HB.out⟩
  have E5 := Lib.hid e5; clear e5
  go_wp2_with fail
  refine (valid_any _ _ _ M _ (HI.out.below HB1.out) (by omega) (HT.out.below HB1.out)).mono ?_
  rintro e w2 ⟨rfl, hb⟩
  have HB2 := Lib.hid (HB1.out.trans (hb.mono HB1.out.size)); clear hb
  rw [HW.out]
  cases e6 : conf M
  · go_wp2_with fail
    refine (rules_any _ (HT.out.below HB2.out)).mono ?_
    rintro e w3 ⟨rfl, hb⟩
    have HB := Lib.hid (HB2.out.trans (hb.mono HB2.out.size)); clear hb
    go_wp2
    go_ret
    exact ⟨rfl, HB.out⟩
  have HJ := Lib.hid (show valid (L ++ M) = !(has 2 (L ++ M) && has 5 (L ++ M)) by rw [HVW.out]; exact joined L M E3.out E4.out E5.out e6)
  clear e6
  have HH1 := Lib.hid ((HH.out.below HB2.out).below ((Below.refl w2.heap.size w2).alloc (Nat.le_refl _) (.cells #[] 5)))
  go_wp2_with (at_builtin; refine wpList_append_lab rfl (.tmp 43) (.tmp 44) 22 rfl 5 i0 Tryd.underlying22 hi hz0 hz1 hz2 w2.heap.size 0 0 [] rfl (own_empty w2) a n cap L rfl HH1.out n (Nat.zero_add n) (by omega) ?_)
  intro g3 cap3 w3 hg hown hgr
  have HB3 := Lib.hid (HB2.out.trans ((((Below.refl w2.heap.size w2).alloc (Nat.le_refl _) (.cells #[] 5)).trans (below_grown hgr (Nat.le_refl _) (by simp))).mono HB2.out.size))
  have HG3 := Lib.hid (show w2.heap.size ≤ g3 by rcases hg with h | h <;> (rw [h]; simp))
  have HO3 := Lib.hid hown; clear hown hgr hg
  go_wp2_with (at_builtin; refine wpList_append_lab rfl (.tmp 45) (.tmp 46) 22 rfl 5 i0 Tryd.underlying22 hi hz0 hz1 hz2 g3 n cap3 _ rfl HO3.out a' n' cap' M rfl (HI.out.below HB3.out) (n + n') rfl (by omega) ?_)
  intro g4 cap4 w4 hg hown hgr
  have HB4 := Lib.hid (HB3.out.trans (below_grown hgr (Nat.le_trans HB2.out.size HG3.out) HB3.out.size))
  have HO4 := Lib.hid hown; clear hown hgr hg
  go_wp2_with fail
  refine (rules_any _ (HT.out.below HB4.out)).mono ?_
  rintro e w5 ⟨rfl, hb⟩
  have HB5 := Lib.hid (HB4.out.trans (hb.mono HB4.out.size))
  have HO5 := Lib.hid (HO4.out.below hb); clear hb
  go_wp2_with fail
  refine (valid_any _ _ _ _ _ HO5.out.lab (by omega) (HT.out.below HB5.out)).mono ?_
  rintro e w6 ⟨rfl, hb⟩
  have HB6 := Lib.hid (HB5.out.trans (hb.mono HB5.out.size))
  have HO6 := Lib.hid (HO5.out.below hb); clear hb
  rw [HJ.out]
  go_wp2_with fail
  refine (has_any _ 2 (L ++ M) _ HO6.out.lab (by rw [List.length_append, HL.out, HM.out]; omega)).mono ?_
  rintro e w' ⟨rfl, rfl⟩
  cases e2 : has 2 (L ++ M)
  · go_wp2
    go_ret
    exact ⟨rfl, HB6.out⟩
  go_wp2_with fail
  refine (has_any _ 5 (L ++ M) _ HO6.out.lab (by rw [List.length_append, HL.out, HM.out]; omega)).mono ?_
  rintro e w' ⟨rfl, rfl⟩
  cases e5 : has 5 (L ++ M)
  all_goals
    go_wp2
    go_ret
    exact ⟨rfl, HB6.out⟩
end Go.Proofs.YtoceibpgapjhcaaDoor
