/- The laws laws.FnStep and FnStepBroken return true for every label and class, where the transitions are as listed; nothing that was there is written. -/
import Derived.Test.YtoceibpgapjhcaaDoorStep
import Derived.Test.YtoceibpgapjhcaaDoorLaw1
namespace Go.Proofs.YtoceibpgapjhcaaDoor
open Go.RowKit
set_option linter.unusedVariables false

theorem bitsN_bits (l : List Int) (h : ∀ c ∈ l, c < 16) : bitsN l = bits l := by
  unfold bitsN bits
  have gen : ∀ (l : List Int) (a : Nat), (∀ c ∈ l, c < 16) → l.foldl (fun a c => a ||| 2 ^ c.toNat) a = l.foldl (fun a c => a ||| bit c) a := by
    intro l
    induction l with
    | nil => intro a _; rfl
    | cons c t ih =>
      intro a hl
      have : bit c = 2 ^ c.toNat := by unfold bit; rw [if_pos (hl c (by simp))]
      rw [List.foldl_cons, List.foldl_cons, this]
      exact ih _ (fun x hx => hl x (by simp [hx]))
  exact gen l 0 h
theorem bits_lt (l : List Int) : bits l < 65536 := by
  unfold bits
  have gen : ∀ (l : List Int) (a : Nat), a < 65536 → l.foldl (fun a c => a ||| bit c) a < 65536 := by
    intro l
    induction l with
    | nil => intro a h; exact h
    | cons c t ih => intro a h; exact ih _ (or_lt h (bit_lt c))
  exact gen l 0 (by decide)
theorem run_first : run ⟨0, true, 0, 0⟩ [1] = ⟨1, true, 4, 2⟩ := rfl
theorem step_first (w : World) (hT : TabAt w) : Calls Tryd.prog 16 #[.int .i64 0, .int .i64 0, .int .i64 1] w fun e w' => e = .returned (.tuple #[.int .i64 4, .int .i64 2, .bool true]) ∧ Below w.heap.size w w' :=
  step_any 0 0 1 0 0 rfl rfl w hT (by omega) (by omega) (by omega) (by omega)
theorem lab_left {L : List Int} {c : Int} (h : isLab (L ++ [c]) = true) : isLab L = true := by
  unfold isLab at *; rw [List.all_append, Bool.and_eq_true] at h; exact h.1

theorem step_long (a : Option Addr) (n cap : Nat) (c : Int) (w : World) (h : 2147483647 < n) (hm : n ≤ 9223372036854775807) : Calls Tryd.prog 3 #[.slice a n cap, .int .u8 c] w (LawPost w) := by
  go_enter Tryd.func3, Tryd.ntmps3
  go_wp2
  go_ret
  exact ⟨rfl, Below.refl _ _⟩

set_option maxRecDepth 100000 in
set_option maxHeartbeats 4000000 in
theorem step_short (a : Option Addr) (n cap : Nat) (c : Int) (L : List Int) (w : World) (h : Lab w (.slice a n cap) L) (hn : n ≤ 2147483647) (hT : TabAt w) (hc0 : 0 ≤ c) (hc1 : c < 256) :
    Calls Tryd.prog 3 #[.slice a n cap, .int .u8 c] w (LawPost w) := by
  obtain ⟨i0, hi, hz0, hz1, hz2⟩ := info_parts info5
  have HH := Lib.hid h
  have HL := Lib.hid h.len
  have HT := Lib.hid hT
  have HBy := Lib.hid (show Bytes' (L ++ [c]) from h.1.append (by intro x hx; simp at hx; omega))
  clear h hT
  go_enter Tryd.func3, Tryd.ntmps3
  go_wp2_with fail
  refine (step_first _ HT.out).mono ?_
  rintro e w1 ⟨rfl, hb⟩
  have HB1 := Lib.hid hb; clear hb
  have HH1 := Lib.hid ((HH.out.below HB1.out).below ((Below.refl w1.heap.size w1).alloc (Nat.le_refl _) (.cells #[] 5)))
  go_wp2_with (at_builtin; refine wpList_append_lab rfl (.tmp 28) (.tmp 29) 22 rfl 5 i0 Tryd.underlying22 hi hz0 hz1 hz2 w1.heap.size 0 0 [] rfl (own_empty w1) a n cap L rfl HH1.out n (Nat.zero_add n) (by omega) ?_)
  intro g2 cap2 w2 hg hown hgr
  have HB2 := Lib.hid (HB1.out.trans ((((Below.refl w1.heap.size w1).alloc (Nat.le_refl _) (.cells #[] 5)).trans (below_grown hgr (Nat.le_refl _) (by simp))).mono HB1.out.size))
  have HG2 := Lib.hid (show w1.heap.size ≤ g2 by rcases hg with h | h <;> (rw [h]; simp))
  have HO2 := Lib.hid hown; clear hown hgr hg
  go_wp2_with (at_builtin; refine wpList_append_lab rfl (.tmp 30) (.tmp 32) 22 rfl 5 i0 Tryd.underlying22 hi hz0 hz1 hz2 g2 n cap2 _ rfl (HO2.out.alloc _) (some ⟨w2.heap.size, 0, none⟩) 1 1 [c] rfl (own_one w2 _ hc0 hc1).lab (n + 1) rfl (by omega) ?_)
  intro g3 cap3 w3 hg hown hgr
  have HB3 := Lib.hid ((HB2.out.alloc HB2.out.size _).trans (below_grown hgr (Nat.le_trans HB1.out.size HG2.out) (by have := HB2.out.size; simp; omega)))
  have HO3 := Lib.hid (show Own w3 5 g3 (n + 1) cap3 (L ++ [c]) from hown); clear hown hgr hg
  have HM := Lib.hid (show (L ++ [c]).length ≤ 140737488351232 by rw [List.length_append, HL.out]; simp; omega)
  go_wp2_with fail
  refine (isLabel_any _ (L ++ [c]) _ HO3.out.lab HM.out).mono ?_
  rintro e w' ⟨rfl, rfl⟩
  cases e1 : isLab (L ++ [c])
  · go_wp2
    go_ret
    exact ⟨rfl, HB3.out⟩
  have E1 := Lib.hid e1; clear e1
  by_cases hc13 : 13 < c
  · go_wp2
    go_ret
    exact ⟨rfl, HB3.out⟩
  go_wp2_with fail
  refine (stateOf_any _ _ _ L _ (HH.out.below HB3.out) (by omega)).mono ?_
  rintro e w4 ⟨rfl, hb⟩
  have HB4 := Lib.hid (HB3.out.trans (hb.mono HB3.out.size))
  have HO4 := Lib.hid (HO3.out.below hb); clear hb
  by_cases h5 : stateOf L = 5
  · rw [h5]
    go_wp2
    go_ret
    exact ⟨rfl, HB4.out⟩
  obtain ⟨s, hs⟩ : ∃ s, s = stateOf L := ⟨_, rfl⟩
  rw [← hs] at h5 ⊢
  have hs5 : s ≤ 5 := by
    rw [hs]; unfold stateOf
    split
    · omega
    · split
      · unfold code; split <;> split <;> omega
      · omega
  have HGd := Lib.hid (show good L = true by
    cases hg : good L with
    | true => rfl
    | false => exact absurd (state_five.2 hg) (hs ▸ h5))
  have HS := Lib.hid hs; clear hs
  have n5 : ((s : Int) == 5) = false := by simp; omega
  go_wp2_with fail
  refine (stateOf_any _ _ _ L _ (HH.out.below HB4.out) (by omega)).mono ?_
  rintro e w5 ⟨rfl, hb⟩
  have HB5 := Lib.hid (HB4.out.trans (hb.mono HB4.out.size))
  have HO5 := Lib.hid (HO4.out.below hb); clear hb
  rw [← HS.out]
  go_wp2_with fail
  refine (bits_any _ L _ (HH.out.below HB5.out) (by have := HL.out; omega) (lab_left E1.out)).mono ?_
  rintro e w' ⟨rfl, rfl⟩
  have hsm : ∀ x ∈ L, x < 16 := fun x hx => by have := bits_and_small HGd.out x hx; omega
  have hsm2 : ∀ x ∈ L ++ [c], x < 16 := by
    intro x hx
    rcases List.mem_append.1 hx with h1 | h1
    · exact hsm x h1
    · simp at h1; omega
  have HQ := Lib.hid (bitsN_bits L hsm)
  have HQ2 := Lib.hid (bitsN_bits _ hsm2)
  clear hsm hsm2
  obtain ⟨q, hq⟩ : ∃ q, q = bits L := ⟨_, rfl⟩
  rw [HQ.out, ← hq]
  have hq5 : q < 65536 := by rw [hq]; exact bits_lt L
  have HQ3 := Lib.hid hq; clear hq
  have e3 : IntKind.i64.wrap c = c := IntWalk.i64_in _ ⟨by omega, by omega⟩
  go_wp2_with fail
  refine (step_any _ _ _ s q rfl rfl _ (HT.out.below HB5.out) hs5 hq5 hc0 hc1).mono ?_
  rintro e w6 ⟨rfl, hb⟩
  have HB6 := Lib.hid (HB5.out.trans (hb.mono HB5.out.size))
  have HO6 := Lib.hid (HO5.out.below hb); clear hb
  obtain ⟨r1, r2, r3⟩ := run_one L c HBy.out HGd.out
  rw [← HS.out, ← HQ3.out] at r1 r2 r3
  generalize run ⟨0, true, s, q⟩ [c] = r at r1 r2 r3
  obtain ⟨rn, rok, rst, rseen⟩ := r
  simp only at r1 r2 r3
  rw [← HQ2.out] at r2
  subst r1 r2
  have HR3 := Lib.hid r3; clear r3
  obtain ⟨S, hS⟩ : ∃ S, S = stateOf (L ++ [c]) := ⟨_, rfl⟩
  obtain ⟨B, hB⟩ : ∃ B, B = bitsN (L ++ [c]) := ⟨_, rfl⟩
  have HSS := Lib.hid hS
  have HBB := Lib.hid hB
  simp only [← hS, ← hB]
  clear hS hB
  go_wp2_with fail
  refine (stateOf_any _ _ _ (L ++ [c]) _ HO6.out.lab (by omega)).mono ?_
  rintro e w7 ⟨rfl, hb⟩
  have HB7 := Lib.hid (HB6.out.trans (hb.mono HB6.out.size))
  have HO7 := Lib.hid (HO6.out.below hb); clear hb
  rw [← HSS.out]
  go_wp2_with fail
  refine (bits_any _ (L ++ [c]) _ HO7.out.lab HM.out E1.out).mono ?_
  rintro e w' ⟨rfl, rfl⟩
  rw [← HBB.out]
  go_wp2_with fail
  refine (isBackAll_any _ (L ++ [c]) _ HO7.out.lab HM.out).mono ?_
  rintro e w' ⟨rfl, rfl⟩
  cases hbk : isBk (L ++ [c])
  · go_wp2
    go_ret
    exact ⟨rfl, HB7.out⟩
  · have hok := HR3.out hbk
    clear hbk
    by_cases hS5 : S = 5
    · have e5 : ((S : Int) != 5) = false := by simp [hS5]
      have : rok = false := by rw [hok, ← HSS.out]; simp [hS5]
      clear hok hS5
      subst this
      go_wp2
      go_ret
      exact ⟨rfl, HB7.out⟩
    · have e5 : ((S : Int) != 5) = true := by simp; omega
      have : rok = true := by rw [hok, ← HSS.out]; simp [hS5]
      clear hok hS5
      subst this
      go_wp2
      go_ret
      exact ⟨rfl, HB7.out⟩
end Go.Proofs.YtoceibpgapjhcaaDoor
