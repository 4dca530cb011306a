/- The laws laws.FnStepBroken, FnAdvanced and FnAdvancedFault return true for every label, where the transitions are as listed; nothing that was there is written. -/
import Derived.Test.YtoceibpgapjhcaaDoorLaw5
namespace Go.Proofs.YtoceibpgapjhcaaDoor
open Go.RowKit
set_option linter.unusedVariables false

theorem broken_long (a : Option Addr) (n cap : Nat) (c : Int) (w : World) (h : 2147483647 < n) (hm : n ≤ 9223372036854775807) : Calls Tryd.prog 4 #[.slice a n cap, .int .u8 c] w (LawPost w) := by
  go_enter Tryd.func4, Tryd.ntmps4
  go_wp2
  go_ret
  exact ⟨rfl, Below.refl _ _⟩

set_option maxRecDepth 100000 in
set_option maxHeartbeats 4000000 in
theorem broken_short (a : Option Addr) (n cap : Nat) (c : Int) (L : List Int) (w : World) (h : Lab w (.slice a n cap) L) (hn : n ≤ 2147483647) (hT : TabAt w) (hc0 : 0 ≤ c) (hc1 : c < 256) :
    Calls Tryd.prog 4 #[.slice a n cap, .int .u8 c] w (LawPost w) := by
  have HH := Lib.hid h
  have HL := Lib.hid h.len
  have HT := Lib.hid hT
  clear h hT
  go_enter Tryd.func4, Tryd.ntmps4
  go_wp2_with fail
  refine (step_first _ HT.out).mono ?_
  rintro e w1 ⟨rfl, hb⟩
  have HB1 := Lib.hid hb; clear hb
  by_cases hbig : 1000000 < n
  · go_wp2
    go_ret
    exact ⟨rfl, HB1.out⟩
  go_wp2_with fail
  refine (isLabel_any _ L _ (HH.out.below HB1.out) (by have := HL.out; omega)).mono ?_
  rintro e w' ⟨rfl, rfl⟩
  cases e1 : isLab L
  · go_wp2
    go_ret
    exact ⟨rfl, HB1.out⟩
  have E1 := Lib.hid e1; clear e1
  by_cases hc13 : 13 < c
  · go_wp2
    go_ret
    exact ⟨rfl, HB1.out⟩
  go_wp2_with fail
  refine (stateOf_any _ _ _ L _ (HH.out.below HB1.out) (by omega)).mono ?_
  rintro e w4 ⟨rfl, hb⟩
  have HB4 := Lib.hid (HB1.out.trans (hb.mono HB1.out.size)); clear hb
  obtain ⟨s, hs⟩ : ∃ s, s = stateOf L := ⟨_, rfl⟩
  rw [← hs]
  clear hs
  by_cases h5 : s = 5
  · have n5 : ((s : Int) != 5) = false := by simp [h5]
    clear h5
    go_wp2_with fail
    refine (bits_any _ L _ (HH.out.below HB4.out) (by have := HL.out; omega) E1.out).mono ?_
    rintro e w' ⟨rfl, rfl⟩
    obtain ⟨q, hq⟩ : ∃ q, q = bitsN L := ⟨_, rfl⟩
    have hq1 : q < 8388608 := by rw [hq]; exact bitsN_lt L E1.out
    rw [← hq]
    clear hq
    obtain ⟨t, ht⟩ : ∃ t, t = q &&& 16383 := ⟨_, rfl⟩
    have ht1 : t < 16384 := by rw [ht]; exact Nat.lt_of_le_of_lt Nat.and_le_right (by decide)
    have e2 : Go.bits .and .i64 (q : Int) 16383 = (t : Int) := by rw [ht]; exact i64_and_nat q 16383 (by omega) (by omega)
    clear ht
    have e3 : IntKind.i64.wrap c = c := IntWalk.i64_in _ ⟨by omega, by omega⟩
    go_wp2_with fail
    refine (step_any _ _ _ 5 t rfl rfl _ (HT.out.below HB4.out) (by omega) (by omega) hc0 hc1).mono ?_
    rintro e w6 ⟨rfl, hb⟩
    have HB6 := Lib.hid (HB4.out.trans (hb.mono HB4.out.size)); clear hb
    have hr := run_broken c t
    generalize run ⟨0, true, 5, t⟩ [c] = r at hr
    obtain ⟨rn, rok, rst, rseen⟩ := r
    simp only at hr
    subst hr
    go_wp2
    go_ret
    exact ⟨rfl, HB6.out⟩
  · have n5 : ((s : Int) != 5) = true := by simp; omega
    clear h5
    go_wp2
    go_ret
    exact ⟨rfl, HB4.out⟩

theorem advanced_one : run init [1] = ⟨1, true, 4, 2⟩ := rfl
theorem advanced_first (w : World) (hT : TabAt w) (o : Obj) (ho : o = .cells #[.int .u8 1] 5) :
    Calls Tryd.prog 21 #[.slice (some ⟨w.heap.size, 0, none⟩) 1 1] (w.alloc o) fun e w' => e = .returned (.tuple #[.int .i64 1, .bool true, .int .i64 4, .int .i64 2, .bool true, .bool true]) ∧ Below w.heap.size w w' := by
  subst ho
  have h := advanced_any _ 1 1 [1] _ (own_one (e := 5) w 1 (by omega) (by omega)).lab (by omega) (hT.below ((Below.refl w.heap.size w).alloc (Nat.le_refl _) _))
  rw [advanced_one] at h
  exact h.mono fun e w' ⟨he, hb⟩ => ⟨he, ((Below.refl w.heap.size w).alloc (Nat.le_refl _) _).trans (hb.mono (by simp))⟩

theorem fault_long (a : Option Addr) (n cap : Nat) (w : World) (h : 2147483647 < n) (hm : n ≤ 9223372036854775807) : Calls Tryd.prog 6 #[.slice a n cap] w (LawPost w) := by
  go_enter Tryd.func6, Tryd.ntmps6
  go_wp2
  go_ret
  exact ⟨rfl, Below.refl _ _⟩

set_option maxRecDepth 100000 in
set_option maxHeartbeats 4000000 in
theorem fault_short (a : Option Addr) (n cap : Nat) (L : List Int) (w : World) (h : Lab w (.slice a n cap) L) (hn : n ≤ 2147483647) (hT : TabAt w) :
    Calls Tryd.prog 6 #[.slice a n cap] w (LawPost w) := by
  have HH := Lib.hid h
  have HL := Lib.hid h.len
  have HBy := Lib.hid (show Bytes' L from h.1)
  have HT := Lib.hid hT
  clear h hT
  go_enter Tryd.func6, Tryd.ntmps6
  go_wp2_with fail
  refine (advanced_first _ HT.out _ rfl).mono ?_
  rintro e w1 ⟨rfl, hb⟩
  have HB1 := Lib.hid hb; clear hb
  by_cases hbig : 1000000 < n
  · go_wp2
    go_ret
    exact ⟨rfl, HB1.out⟩
  go_wp2_with fail
  refine (isLabel_any _ L _ (HH.out.below HB1.out) (by have := HL.out; omega)).mono ?_
  rintro e w' ⟨rfl, rfl⟩
  cases e1 : isLab L
  · go_wp2
    go_ret
    exact ⟨rfl, HB1.out⟩
  clear e1
  go_wp2_with fail
  refine (isBackAll_any _ L _ (HH.out.below HB1.out) (by have := HL.out; omega)).mono ?_
  rintro e w' ⟨rfl, rfl⟩
  cases e2 : isBk L
  · go_wp2
    go_ret
    exact ⟨rfl, HB1.out⟩
  have E2 := Lib.hid e2; clear e2
  go_wp2_with fail
  refine (stateOf_any _ _ _ L _ (HH.out.below HB1.out) (by omega)).mono ?_
  rintro e w4 ⟨rfl, hb⟩
  have HB4 := Lib.hid (HB1.out.trans (hb.mono HB1.out.size)); clear hb
  obtain ⟨s, hs⟩ : ∃ s, s = stateOf L := ⟨_, rfl⟩
  rw [← hs]
  have HS := Lib.hid hs; clear hs
  by_cases h5 : s = 5
  · have n5 : ((s : Int) != 5) = false := by simp [h5]
    have hf := run_fault L HBy.out (HS.out ▸ h5) E2.out
    clear h5
    go_wp2_with fail
    refine (advanced_any _ _ _ L _ (HH.out.below HB4.out) (by omega) (HT.out.below HB4.out)).mono ?_
    rintro e w6 ⟨rfl, hb⟩
    have HB6 := Lib.hid (HB4.out.trans (hb.mono HB4.out.size)); clear hb
    generalize run init L = r at hf
    obtain ⟨rn, rok, rst, rseen⟩ := r
    simp only at hf
    subst hf
    go_wp2
    go_ret
    exact ⟨rfl, HB6.out⟩
  · have n5 : ((s : Int) != 5) = true := by simp; omega
    clear h5
    go_wp2
    go_ret
    exact ⟨rfl, HB4.out⟩

theorem advanced_long (a : Option Addr) (n cap : Nat) (w : World) (h : 2147483647 < n) (hm : n ≤ 9223372036854775807) : Calls Tryd.prog 5 #[.slice a n cap] w (LawPost w) := by
  go_enter Tryd.func5, Tryd.ntmps5
  go_wp2
  go_ret
  exact ⟨rfl, Below.refl _ _⟩

theorem nat_eq (s k : Nat) : (s == k) = ((s : Int) == (k : Int)) := by rw [Bool.eq_iff_iff, beq_iff_eq, beq_iff_eq]; omega
theorem finSt_state {L : List Int} {n : Nat} (h : L.length = n) (h0 : 0 < n) : finSt (stateOf L) = (stateOf L == 4 || stateOf L == 2) := by
  have : stateOf L ≠ 0 := by
    rw [state_hold h h0]; split
    · unfold code; split <;> split <;> omega
    · omega
  unfold finSt
  have e0 : (stateOf L == 0) = false := by simpa using this
  rw [e0, Bool.or_false, Bool.or_comm]

set_option maxRecDepth 100000 in
set_option maxHeartbeats 4000000 in
theorem advanced_short (a : Option Addr) (n cap : Nat) (L : List Int) (w : World) (h : Lab w (.slice a n cap) L) (hn : n ≤ 2147483647) (hT : TabAt w) :
    Calls Tryd.prog 5 #[.slice a n cap] w (LawPost w) := by
  have HH := Lib.hid h
  have HL := Lib.hid h.len
  have HBy := Lib.hid (show Bytes' L from h.1)
  have HT := Lib.hid hT
  clear h hT
  go_enter Tryd.func5, Tryd.ntmps5
  go_wp2_with fail
  refine (advanced_first _ HT.out _ rfl).mono ?_
  rintro e w1 ⟨rfl, hb⟩
  have HB1 := Lib.hid hb; clear hb
  by_cases hbig : 1000000 < n
  · go_wp2
    go_ret
    exact ⟨rfl, HB1.out⟩
  go_wp2_with fail
  refine (isLabel_any _ L _ (HH.out.below HB1.out) (by have := HL.out; omega)).mono ?_
  rintro e w' ⟨rfl, rfl⟩
  cases e1 : isLab L
  · go_wp2
    go_ret
    exact ⟨rfl, HB1.out⟩
  have E1 := Lib.hid e1; clear e1
  by_cases h0 : 0 < n
  · have hne : ((n : Int) == 0) = false := by simp; omega
    go_wp2_with fail
    refine (stateOf_any _ _ _ L _ (HH.out.below HB1.out) (by omega)).mono ?_
    rintro e w4 ⟨rfl, hb⟩
    have HB4 := Lib.hid (HB1.out.trans (hb.mono HB1.out.size)); clear hb
    obtain ⟨s, hs⟩ : ∃ s, s = stateOf L := ⟨_, rfl⟩
    rw [← hs]
    have HS := Lib.hid hs; clear hs
    by_cases h5 : s = 5
    · have n5 : ((s : Int) == 5) = true := by simp [h5]
      clear h5
      go_wp2
      go_ret
      exact ⟨rfl, HB4.out⟩
    · have n5 : ((s : Int) == 5) = false := by simp; omega
      have hgood : good L = true := by
        cases hg : good L with
        | true => rfl
        | false => exact absurd (state_five.2 hg) (HS.out ▸ h5)
      have hw := run_whole L HBy.out (HS.out ▸ h5)
      have hsm : ∀ x ∈ L, x < 16 := fun x hx => by have := bits_and_small hgood x hx; omega
      have HN := Lib.hid (bitsN_bits L hsm)
      have HRt := Lib.hid (rtl_bits L HBy.out)
      have HF := Lib.hid (finSt_state HL.out h0)
      clear hsm hgood h5
      go_wp2_with fail
      refine (advanced_any _ _ _ L _ (HH.out.below HB4.out) (by omega) (HT.out.below HB4.out)).mono ?_
      rintro e w6 ⟨rfl, hb⟩
      have HB6 := Lib.hid (HB4.out.trans (hb.mono HB4.out.size)); clear hb
      rw [hw]
      clear hw
      obtain ⟨q, hq⟩ : ∃ q, q = bits L := ⟨_, rfl⟩
      simp only [HRt.out, HF.out, HL.out]
      rw [← HS.out, ← hq]
      have HQ := Lib.hid hq; clear hq
      go_wp2_with fail
      refine (stateOf_any _ _ _ L _ (HH.out.below HB6.out) (by omega)).mono ?_
      rintro e w7 ⟨rfl, hb⟩
      have HB7 := Lib.hid (HB6.out.trans (hb.mono HB6.out.size)); clear hb
      rw [← HS.out]
      go_wp2_with fail
      refine (bits_any _ L _ (HH.out.below HB7.out) (by have := HL.out; omega) E1.out).mono ?_
      rintro e w' ⟨rfl, rfl⟩
      rw [HN.out, ← HQ.out]
      go_wp2_with fail
      refine (isBackAll_any _ L _ (HH.out.below HB7.out) (by have := HL.out; omega)).mono ?_
      rintro e w' ⟨rfl, rfl⟩
      go_wp2
      · have h4 : (s : Int) = 4 := by assumption
        go_ret
        exact ⟨ret_bool (by rw [show s = 4 by omega]; rfl), HB7.out⟩
      · go_ret
        exact ⟨ret_bool (by rw [nat_eq s 4, nat_eq s 2]; simp), HB7.out⟩
  · have hne : ((n : Int) == 0) = true := by simp; omega
    go_wp2
    go_ret
    exact ⟨rfl, HB1.out⟩
end Go.Proofs.YtoceibpgapjhcaaDoor
