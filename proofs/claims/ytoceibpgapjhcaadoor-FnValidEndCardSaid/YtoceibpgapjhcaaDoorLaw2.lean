/- The laws laws.FnValidEnd, FnValidJoined, FnValidMarks, FnValidNumbers return true for every label, where the transitions are as listed; nothing that was there is written. -/
import Derived.Test.YtoceibpgapjhcaaDoorLaw1
namespace Go.Proofs.YtoceibpgapjhcaaDoor
open Go.RowKit
set_option linter.unusedVariables false

/-! FnValidEnd -/
theorem end_long (a : Option Addr) (n cap : Nat) (c : Int) (w : World) (h : 2147483647 < n) (hm : n ≤ 9223372036854775807) : Calls Tryd.prog 9 #[.slice a n cap, .int .u8 c] w (LawPost w) := by
  go_enter Tryd.func9, Tryd.ntmps9
  go_wp2
  go_ret
  exact ⟨rfl, Below.refl _ _⟩

theorem end_early (a : Option Addr) (n cap : Nat) (c : Int) (L : List Int) (w : World) (h : Lab w (.slice a n cap) L) (hn : n ≤ 2147483647) (hT : TabAt w) (hno : 1000000 < n ∨ isLab L = false ∨ isBk L = false ∨ neu c = false) :
    Calls Tryd.prog 9 #[.slice a n cap, .int .u8 c] w (LawPost w) := by
  have HH := Lib.hid h
  have HL := Lib.hid h.len
  have HT := Lib.hid hT
  clear h hT
  by_cases hbig : 1000000 < n
  · clear hno
    go_enter Tryd.func9, Tryd.ntmps9
    go_wp2_with fail
    refine (rules_any _ HT.out).mono ?_
    rintro e w1 ⟨rfl, hb⟩
    have HB := Lib.hid hb; clear hb
    go_wp2
    go_ret
    exact ⟨rfl, HB.out⟩
  · cases hil : isLab L
    · clear hno
      go_enter Tryd.func9, Tryd.ntmps9
      go_wp2_with (go_at_call 17; refine (isLabel_any _ L _ HH.out (by have := HL.out; omega)).mono ?_; rintro e w' ⟨rfl, rfl⟩)
      refine (rules_any _ HT.out).mono ?_
      rintro e w1 ⟨rfl, hb⟩
      have HB := Lib.hid hb; clear hb
      go_wp2
      go_ret
      exact ⟨rfl, HB.out⟩
    · cases hbk : isBk L
      · clear hno
        go_enter Tryd.func9, Tryd.ntmps9
        go_wp2_with (first | (go_at_call 17; refine (isLabel_any _ L _ HH.out (by have := HL.out; omega)).mono ?_; rintro e w' ⟨rfl, rfl⟩) | (go_at_call 20; refine (isBackAll_any _ L _ HH.out (by have := HL.out; omega)).mono ?_; rintro e w' ⟨rfl, rfl⟩))
        refine (rules_any _ HT.out).mono ?_
        rintro e w1 ⟨rfl, hb⟩
        have HB := Lib.hid hb; clear hb
        go_wp2
        go_ret
        exact ⟨rfl, HB.out⟩
      · have hneu : neu c = false := by
          rcases hno with h | h | h | h
          · exact absurd h hbig
          · rw [hil] at h; cases h
          · rw [hbk] at h; cases h
          · exact h
        clear hno
        obtain ⟨e1, e2, e3, e4, e5⟩ := neu_no hneu
        have f1 : (c != 3) = true := by simp only [bne, e1]; rfl
        have f2 : (c != 6) = true := by simp only [bne, e2]; rfl
        have f3 : (c != 4) = true := by simp only [bne, e3]; rfl
        have f4 : (c != 10) = true := by simp only [bne, e4]; rfl
        have f5 : (c != 11) = true := by simp only [bne, e5]; rfl
        clear hneu
        go_enter Tryd.func9, Tryd.ntmps9
        go_wp2_with (first | (go_at_call 17; refine (isLabel_any _ L _ HH.out (by have := HL.out; omega)).mono ?_; rintro e w' ⟨rfl, rfl⟩) | (go_at_call 20; refine (isBackAll_any _ L _ HH.out (by have := HL.out; omega)).mono ?_; rintro e w' ⟨rfl, rfl⟩))
        refine (rules_any _ HT.out).mono ?_
        rintro e w1 ⟨rfl, hb⟩
        have HB := Lib.hid hb; clear hb
        go_wp2
        go_ret
        exact ⟨rfl, HB.out⟩

set_option maxRecDepth 100000 in
set_option maxHeartbeats 2000000 in
theorem end_main (a : Option Addr) (n cap : Nat) (c : Int) (L : List Int) (w : World) (h : Lab w (.slice a n cap) L) (hn : ¬ 1000000 < n) (hT : TabAt w) (hil : isLab L = true) (hbk : isBk L = true) (hc0 : 0 ≤ c) (hc1 : c < 256) (hneu : neu c = true) :
    Calls Tryd.prog 9 #[.slice a n cap, .int .u8 c] w (LawPost w) := by
  obtain ⟨i0, hi, hz0, hz1, hz2⟩ := info_parts info5
  have HH := Lib.hid h
  have HL := Lib.hid h.len
  have HT := Lib.hid hT
  have HX := Lib.hid (show valid (L ++ [c]) = false by
    rw [valid_conf _ (h.1.append (by intro x hx; simp at hx; omega))]; exact end_no L c hneu)
  clear h hT
  rcases neu_yes hneu with rfl | rfl | rfl | rfl | rfl
  all_goals
    clear hneu
    go_enter Tryd.func9, Tryd.ntmps9
    go_wp2_with (first | (go_at_call 17; refine (isLabel_any _ L _ HH.out (by have := HL.out; omega)).mono ?_; rintro e w' ⟨rfl, rfl⟩) | (go_at_call 20; refine (isBackAll_any _ L _ HH.out (by have := HL.out; omega)).mono ?_; rintro e w' ⟨rfl, rfl⟩))
    refine (rules_any _ HT.out).mono ?_
    rintro e w1 ⟨rfl, hb⟩
    have HB := Lib.hid hb; clear hb
    have HH1 := Lib.hid ((HH.out.below HB.out).below ((Below.refl w1.heap.size w1).alloc (Nat.le_refl _) (.cells #[] 5)))
    go_wp2_with (at_builtin; refine wpList_append_lab rfl (.tmp 44) (.tmp 45) 22 rfl 5 i0 Tryd.underlying22 hi hz0 hz1 hz2 w1.heap.size 0 0 [] rfl (own_empty w1) a n cap L rfl HH1.out n (Nat.zero_add n) (by omega) ?_)
    intro g2 cap2 w2 hg hown hgr
    have HB2 := Lib.hid (HB.out.trans ((((Below.refl w1.heap.size w1).alloc (Nat.le_refl _) (.cells #[] 5)).trans (below_grown hgr (Nat.le_refl _) (by simp))).mono HB.out.size))
    have HG2 := Lib.hid (show w1.heap.size ≤ g2 by rcases hg with h | h <;> (rw [h]; simp))
    have HO2 := Lib.hid hown; clear hown hgr hg
    go_wp2_with (at_builtin; refine wpList_append_lab rfl (.tmp 46) (.tmp 48) 22 rfl 5 i0 Tryd.underlying22 hi hz0 hz1 hz2 g2 n cap2 _ rfl (HO2.out.alloc _) (some ⟨w2.heap.size, 0, none⟩) 1 1 [_] rfl (own_one w2 _ hc0 hc1).lab (n + 1) rfl (by omega) ?_)
    intro g3 cap3 w3 hg hown hgr
    have HB3 := Lib.hid ((HB2.out.alloc HB2.out.size _).trans (below_grown hgr (Nat.le_trans HB.out.size HG2.out) (by have := HB2.out.size; simp; omega)))
    have HO3 := Lib.hid hown; clear hown hgr hg
    go_wp2_with fail
    refine (valid_any _ _ _ _ _ HO3.out.lab (by omega) (HT.out.below HB3.out)).mono ?_
    rintro e w4 ⟨rfl, hb⟩
    have HB4 := Lib.hid (HB3.out.trans (hb.mono HB3.out.size)); clear hb
    rw [HX.out]
    go_wp2
    go_ret
    exact ⟨rfl, HB4.out⟩

theorem end_short (a : Option Addr) (n cap : Nat) (c : Int) (L : List Int) (w : World) (h : Lab w (.slice a n cap) L) (hn : n ≤ 2147483647) (hT : TabAt w) (hc0 : 0 ≤ c) (hc1 : c < 256) :
    Calls Tryd.prog 9 #[.slice a n cap, .int .u8 c] w (LawPost w) := by
  by_cases hno : 1000000 < n ∨ isLab L = false ∨ isBk L = false ∨ neu c = false
  · exact end_early a n cap c L w h hn hT hno
  · have h1 : ¬ 1000000 < n := fun x => hno (.inl x)
    have h2 : isLab L = true := by cases e : isLab L with | true => rfl | false => exact absurd (.inr (.inl e)) hno
    have h3 : isBk L = true := by cases e : isBk L with | true => rfl | false => exact absurd (.inr (.inr (.inl e))) hno
    have h4 : neu c = true := by cases e : neu c with | true => rfl | false => exact absurd (.inr (.inr (.inr e))) hno
    exact end_main a n cap c L w h h1 hT h2 h3 hc0 hc1 h4
end Go.Proofs.YtoceibpgapjhcaaDoor
