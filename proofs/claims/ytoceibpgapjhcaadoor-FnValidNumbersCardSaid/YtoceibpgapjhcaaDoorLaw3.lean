/- The laws laws.FnValidNumbers and FnValidMarks return true for every label, where the transitions are as listed; nothing that was there is written. -/
import Derived.Test.YtoceibpgapjhcaaDoorLaw1
namespace Go.Proofs.YtoceibpgapjhcaaDoor
open Go.RowKit
set_option linter.unusedVariables false

/-! FnValidNumbers -/
theorem numbers_long (f : Bool) (a : Option Addr) (n cap : Nat) (w : World) (h : 2147483647 < n) (hm : n ≤ 9223372036854775807) : Calls Tryd.prog 12 #[.bool f, .slice a n cap] w (LawPost w) := by
  go_enter Tryd.func12, Tryd.ntmps12
  go_wp2
  go_ret
  exact ⟨rfl, Below.refl _ _⟩

set_option maxRecDepth 100000 in
set_option maxHeartbeats 2000000 in
theorem numbers_main (f : Bool) (x : Int) (hx : x = if f then 1 else 13) (a : Option Addr) (n cap : Nat) (L : List Int) (w : World) (h : Lab w (.slice a n cap) L) (hn : ¬ 1000000 < n) (hT : TabAt w) (hil : isLab L = true) (h2 : has 2 L = true) (h5 : has 5 L = true) :
    Calls Tryd.prog 12 #[.bool f, .slice a n cap] w (LawPost w) := by
  obtain ⟨i0, hi, hz0, hz1, hz2⟩ := info_parts info5
  have HH := Lib.hid h
  have HL := Lib.hid h.len
  have HT := Lib.hid hT
  have HX := Lib.hid (show valid (x :: L) = false by
    rw [valid_conf (x :: L) (Bytes.append (L := [x]) (by intro y hy; simp at hy; subst hy; cases f <;> simp at hx <;> omega) h.1)]
    exact numbers_no x L (by cases f <;> simp at hx <;> omega) h2 h5)
  clear h hT
  cases f
  all_goals
    simp at hx
    subst hx
    go_enter Tryd.func12, Tryd.ntmps12
    go_wp2_with (first | (go_at_call 17; refine (isLabel_any _ L _ HH.out (by have := HL.out; omega)).mono ?_; rintro e w' ⟨rfl, rfl⟩) | (go_at_call 25; refine (has_any _ _ L _ HH.out (by have := HL.out; omega)).mono ?_; rintro e w' ⟨rfl, rfl⟩))
    refine (rules_any _ HT.out).mono ?_
    rintro e w1 ⟨rfl, hb⟩
    have HB := Lib.hid hb; clear hb
    have HH1 := Lib.hid (fun o => (HH.out.below HB.out).below ((Below.refl w1.heap.size w1).alloc (Nat.le_refl _) o))
    go_wp2_with (at_builtin; refine wpList_append_lab rfl (.tmp 32) (.tmp 33) 22 rfl 5 i0 Tryd.underlying22 hi hz0 hz1 hz2 w1.heap.size 1 1 [_] rfl (own_one w1 _ (by omega) (by omega)) a n cap L rfl (HH1.out _) (1 + n) rfl (by omega) ?_)
    intro g2 cap2 w2 hg hown hgr
    have HB2 := Lib.hid (HB.out.trans ((((Below.refl w1.heap.size w1).alloc (Nat.le_refl _) _).trans (below_grown hgr (Nat.le_refl _) (by simp))).mono HB.out.size))
    have HO2 := Lib.hid hown; clear hown hgr hg
    go_wp2_with fail
    refine (valid_any _ _ _ _ _ HO2.out.lab (by omega) (HT.out.below HB2.out)).mono ?_
    rintro e w4 ⟨rfl, hb⟩
    have HB4 := Lib.hid (HB2.out.trans (hb.mono HB2.out.size)); clear hb
    rw [HX.out]
    go_wp2
    go_ret
    exact ⟨rfl, HB4.out⟩

theorem numbers_early (f : Bool) (a : Option Addr) (n cap : Nat) (L : List Int) (w : World) (h : Lab w (.slice a n cap) L) (hn : n ≤ 2147483647) (hT : TabAt w) (hno : 1000000 < n ∨ isLab L = false ∨ has 2 L = false ∨ has 5 L = false) :
    Calls Tryd.prog 12 #[.bool f, .slice a n cap] w (LawPost w) := by
  have HH := Lib.hid h
  have HL := Lib.hid h.len
  have HT := Lib.hid hT
  clear h hT
  by_cases hbig : 1000000 < n
  · clear hno
    go_enter Tryd.func12, Tryd.ntmps12
    go_wp2_with fail
    refine (rules_any _ HT.out).mono ?_
    rintro e w1 ⟨rfl, hb⟩
    have HB := Lib.hid hb; clear hb
    go_wp2
    go_ret
    exact ⟨rfl, HB.out⟩
  · cases hil : isLab L
    · clear hno
      go_enter Tryd.func12, Tryd.ntmps12
      go_wp2_with (go_at_call 17; refine (isLabel_any _ L _ HH.out (by have := HL.out; omega)).mono ?_; rintro e w' ⟨rfl, rfl⟩)
      refine (rules_any _ HT.out).mono ?_
      rintro e w1 ⟨rfl, hb⟩
      have HB := Lib.hid hb; clear hb
      go_wp2
      go_ret
      exact ⟨rfl, HB.out⟩
    · cases h2 : has 2 L
      · clear hno
        go_enter Tryd.func12, Tryd.ntmps12
        go_wp2_with (first | (go_at_call 17; refine (isLabel_any _ L _ HH.out (by have := HL.out; omega)).mono ?_; rintro e w' ⟨rfl, rfl⟩) | (go_at_call 25; refine (has_any _ _ L _ HH.out (by have := HL.out; omega)).mono ?_; rintro e w' ⟨rfl, rfl⟩))
        refine (rules_any _ HT.out).mono ?_
        rintro e w1 ⟨rfl, hb⟩
        have HB := Lib.hid hb; clear hb
        go_wp2
        go_ret
        exact ⟨rfl, HB.out⟩
      · have h5 : has 5 L = false := by
          rcases hno with h | h | h | h
          · exact absurd h hbig
          · rw [hil] at h; cases h
          · rw [h2] at h; cases h
          · exact h
        clear hno
        go_enter Tryd.func12, Tryd.ntmps12
        go_wp2_with (first | (go_at_call 17; refine (isLabel_any _ L _ HH.out (by have := HL.out; omega)).mono ?_; rintro e w' ⟨rfl, rfl⟩) | (go_at_call 25; refine (has_any _ _ L _ HH.out (by have := HL.out; omega)).mono ?_; rintro e w' ⟨rfl, rfl⟩))
        refine (rules_any _ HT.out).mono ?_
        rintro e w1 ⟨rfl, hb⟩
        have HB := Lib.hid hb; clear hb
        go_wp2
        go_ret
        exact ⟨rfl, HB.out⟩

theorem numbers_short (f : Bool) (a : Option Addr) (n cap : Nat) (L : List Int) (w : World) (h : Lab w (.slice a n cap) L) (hn : n ≤ 2147483647) (hT : TabAt w) : Calls Tryd.prog 12 #[.bool f, .slice a n cap] w (LawPost w) := by
  by_cases hno : 1000000 < n ∨ isLab L = false ∨ has 2 L = false ∨ has 5 L = false
  · exact numbers_early f a n cap L w h hn hT hno
  · have h1 : ¬ 1000000 < n := fun x => hno (.inl x)
    have h2 : isLab L = true := by cases e : isLab L with | true => rfl | false => exact absurd (.inr (.inl e)) hno
    have h3 : has 2 L = true := by cases e : has 2 L with | true => rfl | false => exact absurd (.inr (.inr (.inl e))) hno
    have h4 : has 5 L = true := by cases e : has 5 L with | true => rfl | false => exact absurd (.inr (.inr (.inr e))) hno
    exact numbers_main f _ rfl a n cap L w h h1 hT h2 h3 h4

/-! FnValidMarks -/
def ModPost (w : World) (e : Ending) (w' : World) : Prop := ∃ r : Nat, r < 20 ∧ e = .returned (.int .i64 r) ∧ w = w'
theorem mod_val (i : Int) : ∃ r : Nat, r < 20 ∧ (RowKit.wrap64 (i.tmod 20 + 20)).tmod 20 = r := by
  have h1 : i.tmod 20 < 20 := Int.tmod_lt_of_pos i (by decide)
  have h2 : -20 < i.tmod 20 := by
    have := Int.lt_tmod_of_pos i (show (0 : Int) < 20 by decide)
    omega
  generalize i.tmod 20 = t at h1 h2
  rw [IntWalk.wrap64_in _ ⟨by omega, by omega⟩, Int.tmod_eq_emod_of_nonneg (by omega)]
  exact ⟨((t + 20) % 20).toNat, by omega, by omega⟩
theorem mod_any (i : Int) (w : World) : Calls Tryd.prog 26 #[.int .i64 i, .int .i64 20] w (ModPost w) := by
  obtain ⟨r, hr, hv⟩ := mod_val i
  have HV := Lib.hid hv; clear hv
  go_enter Tryd.func26, Tryd.ntmps26
  go_wp2
  go_ret
  exact ⟨r, hr, by rw [← HV.out]; rfl, rfl⟩

theorem marks_long (i : Int) (a : Option Addr) (n cap : Nat) (w : World) (h : 2147483647 < n) (hm : n ≤ 9223372036854775807) : Calls Tryd.prog 11 #[.slice a n cap, .int .i64 i] w (LawPost w) := by
  go_enter Tryd.func11, Tryd.ntmps11
  go_wp2
  go_ret
  exact ⟨rfl, Below.refl _ _⟩

theorem marks_early (i : Int) (a : Option Addr) (n cap : Nat) (L : List Int) (w : World) (h : Lab w (.slice a n cap) L) (hn : n ≤ 2147483647) (hT : TabAt w) (hno : 1000000 < n ∨ isLab L = false ∨ isBk L = false) :
    Calls Tryd.prog 11 #[.slice a n cap, .int .i64 i] w (LawPost w) := by
  have HH := Lib.hid h
  have HL := Lib.hid h.len
  have HT := Lib.hid hT
  clear h hT
  by_cases hbig : 1000000 < n
  · clear hno
    go_enter Tryd.func11, Tryd.ntmps11
    go_wp2_with fail
    refine (rules_any _ HT.out).mono ?_
    rintro e w1 ⟨rfl, hb⟩
    have HB := Lib.hid hb; clear hb
    go_wp2
    go_ret
    exact ⟨rfl, HB.out⟩
  · cases hil : isLab L
    · clear hno
      go_enter Tryd.func11, Tryd.ntmps11
      go_wp2_with (go_at_call 17; refine (isLabel_any _ L _ HH.out (by have := HL.out; omega)).mono ?_; rintro e w' ⟨rfl, rfl⟩)
      refine (rules_any _ HT.out).mono ?_
      rintro e w1 ⟨rfl, hb⟩
      have HB := Lib.hid hb; clear hb
      go_wp2
      go_ret
      exact ⟨rfl, HB.out⟩
    · have hbk : isBk L = false := by
        rcases hno with h | h | h
        · exact absurd h hbig
        · rw [hil] at h; cases h
        · exact h
      clear hno
      go_enter Tryd.func11, Tryd.ntmps11
      go_wp2_with (first | (go_at_call 17; refine (isLabel_any _ L _ HH.out (by have := HL.out; omega)).mono ?_; rintro e w' ⟨rfl, rfl⟩) | (go_at_call 20; refine (isBackAll_any _ L _ HH.out (by have := HL.out; omega)).mono ?_; rintro e w' ⟨rfl, rfl⟩))
      refine (rules_any _ HT.out).mono ?_
      rintro e w1 ⟨rfl, hb⟩
      have HB := Lib.hid hb; clear hb
      go_wp2
      go_ret
      exact ⟨rfl, HB.out⟩

theorem rep_snoc (L : List Int) (k : Nat) : L ++ List.replicate k 12 ++ [12] = L ++ List.replicate (k + 1) 12 := by rw [List.replicate_succ', List.append_assoc]
theorem bytes_rep {L : List Int} (h : Bytes L) (k : Nat) : Bytes (L ++ List.replicate k 12) := h.append (by intro x hx; have := List.eq_of_mem_replicate hx; omega)

set_option maxRecDepth 100000 in
set_option maxHeartbeats 2000000 in
theorem marks_main (i : Int) (a : Option Addr) (n cap : Nat) (L : List Int) (w : World) (h : Lab w (.slice a n cap) L) (hn : ¬ 1000000 < n) (hT : TabAt w) (hil : isLab L = true) (hbk : isBk L = true) :
    Calls Tryd.prog 11 #[.slice a n cap, .int .i64 i] w (LawPost w) := by
  obtain ⟨i0, hi, hz0, hz1, hz2⟩ := info_parts info5
  have HH := Lib.hid h
  have HL := Lib.hid h.len
  have HT := Lib.hid hT
  have HV := Lib.hid (valid_conf L h.1)
  have HM := Lib.hid (fun m => (show valid (L ++ List.replicate m 12) = conf L by rw [valid_conf _ (bytes_rep h.1 m), marks_any L (isBk_ne hbk) m]))
  have HH1 := Lib.hid (h.below ((Below.refl w.heap.size w).alloc (Nat.le_refl _) (.cells #[] 5)))
  clear h hT
  go_enter Tryd.func11, Tryd.ntmps11
  go_wp2_with (first
    | (go_at_call 17; refine (isLabel_any _ L _ HH.out (by have := HL.out; omega)).mono ?_; rintro e w' ⟨rfl, rfl⟩)
    | (go_at_call 20; refine (isBackAll_any _ L _ HH.out (by have := HL.out; omega)).mono ?_; rintro e w' ⟨rfl, rfl⟩)
    | (at_builtin; refine wpList_append_lab rfl (.tmp 23) (.tmp 24) 22 rfl 5 i0 Tryd.underlying22 hi hz0 hz1 hz2 w.heap.size 0 0 [] rfl (own_empty w) a n cap L rfl HH1.out n (Nat.zero_add n) (by omega) ?_))
  intro g2 cap2 w2 hg hown hgr
  have HB2 := Lib.hid (((Below.refl w.heap.size w).alloc (Nat.le_refl _) (.cells #[] 5)).trans (below_grown hgr (Nat.le_refl _) (by simp)))
  have HG2 := Lib.hid (show w.heap.size ≤ g2 by rcases hg with h | h <;> (rw [h]; simp))
  have HO2 := Lib.hid hown; clear hown hgr hg hil hbk
  go_wp2_with fail
  refine (mod_any _ _).mono ?_
  rintro e w3 ⟨m, hm, rfl, rfl⟩
  go_wp2
  go_loopw [5, 28] (fun v i wr => ∃ (k g c r : Nat), k ≤ m ∧ i = .int .i64 k ∧ v = .slice (some ⟨g, 0, none⟩) r c ∧ r = n + k ∧ w.heap.size ≤ g ∧ Own wr 5 g r c (L ++ List.replicate k 12) ∧ Below w.heap.size w wr) (fun _ i _ => m - (intOf i).toNat)
  case atStart => exact ⟨0, g2, cap2, n, Nat.zero_le _, rfl, rfl, rfl, HG2.out, by simpa using HO2.out, HB2.out⟩
  case round =>
    obtain ⟨k, g, c, r, hk, rfl, rfl, hr, hg, hown, hbel⟩ := hrel
    have HO := Lib.hid hown; clear hown
    have HB := Lib.hid hbel; clear hbel
    have HR := Lib.hid hr
    have hr2 : r ≤ 1000020 := by omega
    clear hr
    by_cases hlt : k < m
    · go_wp2_with (at_builtin; refine wpList_append_lab rfl (.tmp 30) (.tmp 31) 22 rfl 5 i0 Tryd.underlying22 hi hz0 hz1 hz2 g r c _ rfl (HO.out.alloc _) (some ⟨wr.heap.size, 0, none⟩) 1 1 [12] rfl (own_one wr 12 (by omega) (by omega)).lab (r + 1) rfl (by omega) ?_)
      intro g3 c3 w3 hg3 hown hgr
      have HB3 := Lib.hid ((HB.out.alloc HB.out.size _).trans (below_grown hgr hg (by have := HB.out.size; simp; omega)))
      have HG3 := Lib.hid (show w.heap.size ≤ g3 by have := HB.out.size; rcases hg3 with h | h <;> (rw [h]; first | exact hg | (simp; omega)))
      have HO3 := Lib.hid hown; clear hown hgr hg3
      go_wp2
      go_roundw
      case rel => exact ⟨k + 1, g3, c3, r + 1, by omega, by go_num, rfl, by rw [HR.out]; omega, HG3.out, by rw [← rep_snoc, List.append_assoc]; exact HO3.out, HB3.out⟩
      case measure => simp [intOf]; omega
    · go_wp2_with fail
      refine (rules_any _ (HT.out.below HB.out)).mono ?_
      rintro e w4 ⟨rfl, hb⟩
      have HB4 := Lib.hid (HB.out.trans (hb.mono HB.out.size))
      have HO4 := Lib.hid (HO.out.below hb); clear hb
      go_wp2_with fail
      refine (valid_any _ _ _ _ _ HO4.out.lab (by omega) (HT.out.below HB4.out)).mono ?_
      rintro e w5 ⟨rfl, hb⟩
      have HB5 := Lib.hid (HB4.out.trans (hb.mono HB4.out.size)); clear hb
      rw [HM.out]
      go_wp2_with fail
      refine (valid_any _ _ _ L _ (HH.out.below HB5.out) (by omega) (HT.out.below HB5.out)).mono ?_
      rintro e w6 ⟨rfl, hb⟩
      have HB6 := Lib.hid (HB5.out.trans (hb.mono HB5.out.size)); clear hb
      rw [HV.out]
      go_wp2
      go_ret
      exact ⟨rfl, HB6.out⟩

theorem marks_short (i : Int) (a : Option Addr) (n cap : Nat) (L : List Int) (w : World) (h : Lab w (.slice a n cap) L) (hn : n ≤ 2147483647) (hT : TabAt w) : Calls Tryd.prog 11 #[.slice a n cap, .int .i64 i] w (LawPost w) := by
  by_cases hno : 1000000 < n ∨ isLab L = false ∨ isBk L = false
  · exact marks_early i a n cap L w h hn hT hno
  · have h1 : ¬ 1000000 < n := fun x => hno (.inl x)
    have h2 : isLab L = true := by cases e : isLab L with | true => rfl | false => exact absurd (.inr (.inl e)) hno
    have h3 : isBk L = true := by cases e : isBk L with | true => rfl | false => exact absurd (.inr (.inr e)) hno
    exact marks_main i a n cap L w h h1 hT h2 h3
end Go.Proofs.YtoceibpgapjhcaaDoor
