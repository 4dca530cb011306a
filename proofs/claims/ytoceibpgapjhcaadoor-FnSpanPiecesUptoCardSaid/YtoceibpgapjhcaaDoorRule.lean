/- What bidirule.Valid, impl.Valid and laws.rules return: the machine of the plain law. Conditions: the transitions are as listed, the label is a slice of bytes of at most 140737488351232 bytes. -/
import Derived.Test.YtoceibpgapjhcaaDoorAdv
namespace Go.Proofs.YtoceibpgapjhcaaDoor
open Go.RowKit
set_option linter.unusedVariables false

theorem advance_none (bt st seen : Nat) (hs : Value) (a : Option Addr) (cap : Nat) (w : World) (htf : Tf w bt hs st seen) :
    Calls Tryd.prog 44 #[.pointer (some ⟨bt, 0, none⟩), .slice a 0 cap] w (AdvPost bt hs w ⟨0, true, st, seen⟩) := by
  have HF := Lib.hid htf; clear htf
  go_enter Tryd.func44, Tryd.ntmps44
  go_wp2
  refine wp_loop_rounds 1 ?_; rw [rounds_succ]
  go_wp2
  go_ret2
  exact ⟨rfl, HF.out, grown_refl _ _⟩

/-- The block of a label that is not empty. -/
def Apart (v : Value) (bt : Nat) : Prop := ∀ a n cap, v = .slice (some a) n cap → 0 < n → a.block ≠ bt

theorem advance_any (bt st seen : Nat) (hs : Value) (a : Option Addr) (n cap : Nat) (L : List Int) (w : World) (h : Lab w (.slice a n cap) L) (hlen : n ≤ 140737488351232) (hne : Apart (.slice a n cap) bt) (h3 : 3 < bt)
    (htf : Tf w bt hs st seen) (hT : TabAt w) (hst : st ≤ 5) (hseen : seen < 65536) :
    Calls Tryd.prog 44 #[.pointer (some ⟨bt, 0, none⟩), .slice a n cap] w (AdvPost bt hs w (run ⟨0, true, st, seen⟩ L)) := by
  have hl := h.len
  rcases h.2 with ⟨a', cap', hv, hL, _⟩ | ⟨b, off, cap', hv, h1, hc⟩
  · injection hv with h1 h2 h3
    subst h2 hL
    exact advance_none bt st seen hs a cap w htf
  · injection hv with h2 h3 h4
    subst h2
    refine advance_some bt st seen hs b off n cap L w h.1 hl.symm (fun i hi => hc i (by omega)) hlen ?_ (by omega) htf hT hst hseen
    exact hne ⟨b, off, none⟩ n cap rfl (by omega)

/-- A label that was there before the Transformer is apart from it. -/
theorem apart_old {w : World} {v : Value} {L : List Int} (h : Lab w v L) {bt : Nat} (hb : w.heap.size ≤ bt) : Apart v bt := by
  intro a n cap hv hn
  rcases h.2 with ⟨a', cap', hv', hL, _⟩ | ⟨b, off, cap', hv', h1, hc⟩
  · rw [hv] at hv'; injection hv' with h1 h2 h3; omega
  · rw [hv] at hv'; injection hv' with h2 h3 h4
    injection h2 with h2
    have := World.block_lt_of_cell? w _ (hc 0 h1)
    rw [h2]; simp at this ⊢; omega

theorem TabAt.lt {w : World} (h : TabAt w) : 3 < w.heap.size := World.block_lt_of_cell? w _ (h 0 (by omega)).1
theorem TabAt.below {w w' : World} (h : TabAt w) (hb : Below w.heap.size w w') : TabAt w' := by
  have h3 := h.lt
  intro st hs
  obtain ⟨a, b, c, d⟩ := h st hs
  exact ⟨(hb.cell h3).trans a, (hb.cell h3).trans b, (hb.cell h3).trans c, (hb.cell h3).trans d⟩

theorem isFinal_any (bt st : Nat) (w : World) (hc : w.cell? ⟨bt, 0, none⟩ = some (.int .u8 st)) (hst : st ≤ 5) :
    Calls Tryd.prog 48 #[.pointer (some ⟨bt, 0, none⟩)] w fun e w' => e = .returned (.bool (finSt st)) ∧ w = w' := by
  have : st = 0 ∨ st = 1 ∨ st = 2 ∨ st = 3 ∨ st = 4 ∨ st = 5 := by omega
  clear hst
  rcases this with rfl | rfl | rfl | rfl | rfl | rfl
  all_goals
    go_enter Tryd.func48, Tryd.ntmps48
    go_wp2
    go_ret
    exact ⟨rfl, rfl⟩

theorem new_tf (w : World) (v : Value) : Tf (w.alloc (.cells #[.int .u8 0, v, .int .u16 0] 62)) w.heap.size v 0 0 := heap_alloc_new w _
theorem run_le (l : List Int) (r : R) (h : r.st ≤ 5) : (run r l).st ≤ 5 := by
  induction l generalizing r with
  | nil => exact h
  | cons c t ih =>
    refine ih _ ?_
    unfold step
    split
    · split
      · exact Nat.le_refl _
      · split
        · exact Nat.le_refl _
        · show tr r.st (bit c) ≤ 5
          unfold tr; split
          · exact n0_le _
          · split
            · exact n1_le _
            · exact Nat.le_refl _
    · exact h
theorem run_seen (l : List Int) (r : R) (h : r.seen < 65536) : (run r l).seen < 65536 := by
  induction l generalizing r with
  | nil => exact h
  | cons c t ih =>
    refine ih _ ?_
    unfold step
    split
    · split
      · exact or_lt h (bit_lt c)
      · split
        · exact or_lt h (bit_lt c)
        · exact or_lt h (bit_lt c)
    · exact h

theorem valid_bidi (a : Option Addr) (n cap : Nat) (L : List Int) (w : World) (h : Lab w (.slice a n cap) L) (hlen : n ≤ 140737488351232) (hT : TabAt w) :
    Calls Tryd.prog 38 #[.slice a n cap] w fun e w' => e = .returned (.bool (valid L)) ∧ Below w.heap.size w w' := by
  have HL := Lib.hid h.len
  have HA := Lib.hid (apart_old h (Nat.le_refl _))
  have h3 := hT.lt
  have hb0 := (Below.refl w.heap.size w).alloc (Nat.le_refl _) (.cells #[.int .u8 0, .bool false, .int .u16 0] 62)
  have HH := Lib.hid (h.below hb0)
  have HT := Lib.hid (hT.below hb0)
  clear h hT hb0
  go_enter Tryd.func38, Tryd.ntmps38
  go_wp2_with fail
  refine (advance_any w.heap.size 0 0 (.bool false) a n cap L _ HH.out hlen HA.out h3 (new_tf w _) HT.out (by omega) (by omega)).mono ?_
  rintro e w1 ⟨rfl, htf, hgr⟩
  obtain ⟨r, hr⟩ : ∃ r, r = run init L := ⟨_, rfl⟩
  rw [show run ⟨0, true, 0, 0⟩ L = r from hr.symm] at htf ⊢
  have HR := Lib.hid hr
  have HS := Lib.hid (show r.st ≤ 5 from hr ▸ run_le L init (by decide))
  clear hr
  have HF := Lib.hid htf
  have HB := Lib.hid (((Below.refl w.heap.size w).alloc (Nat.le_refl _) (.cells #[.int .u8 0, .bool false, .int .u16 0] 62)).trans (below_grown hgr (Nat.le_refl _) (by simp)))
  clear htf hgr
  obtain ⟨rn, rok, rst, rseen⟩ := r
  have HV := Lib.hid (show valid L = (rok && decide (L.length ≤ rn) && finSt rst) by unfold valid; rw [← HR.out])
  cases rok
  · go_wp2
    go_ret
    exact ⟨ret_bool (by rw [HV.out]; rfl), HB.out⟩
  · by_cases hn : rn < n
    · go_wp2
      go_ret
      exact ⟨ret_bool (by rw [HV.out, HL.out, decide_eq_false (by omega)]; rfl), HB.out⟩
    · go_wp2_with fail
      refine (isFinal_any w.heap.size rst _ HF.out.c0 HS.out).mono ?_
      rintro e w2 ⟨rfl, rfl⟩
      go_wp2
      go_ret
      exact ⟨ret_bool (by rw [HV.out, HL.out, decide_eq_true (by omega)]; rfl), HB.out⟩

theorem info5 : (Tryd.prog.info? 5).map (fun i => (i.zero, i.size, i.bytes)) = some (some (.int .u8 0), 1, 1) := by kernel_rfl

theorem valid_any (a : Option Addr) (n cap : Nat) (L : List Int) (w : World) (h : Lab w (.slice a n cap) L) (hn : n ≤ 140737488351232) (hT : TabAt w) :
    Calls Tryd.prog 23 #[.slice a n cap] w fun e w' => e = .returned (.bool (valid L)) ∧ Below w.heap.size w w' := by
  obtain ⟨i0, hi, hz0, hz1, hz2⟩ := info_parts info5
  have HH := Lib.hid (h.below ((Below.refl w.heap.size w).alloc (Nat.le_refl _) (.cells #[] 5)))
  have HT := Lib.hid hT
  clear h hT
  go_enter Tryd.func23, Tryd.ntmps23
  go_wp2_with (at_builtin; refine wpList_append_lab rfl (.tmp 3) (.tmp 4) 22 rfl 5 i0 Tryd.underlying22 hi hz0 hz1 hz2 w.heap.size 0 0 [] rfl (own_empty w) a n cap L rfl HH.out n (Nat.zero_add n) (by omega) ?_)
  intro g' cap' w1 hg hown hgr
  have HB := Lib.hid (((Below.refl w.heap.size w).alloc (Nat.le_refl _) (.cells #[] 5)).trans (below_grown hgr (Nat.le_refl _) (by simp)))
  have HO := Lib.hid hown; clear hown hgr hg
  go_wp2_with fail
  refine (valid_bidi _ _ _ L _ HO.out.lab hn (HT.out.below HB.out)).mono ?_
  rintro e w2 ⟨rfl, hb2⟩
  have HB2 := Lib.hid (HB.out.trans (hb2.mono HB.out.size)); clear hb2
  go_wp2
  go_ret
  exact ⟨rfl, HB2.out⟩

theorem valid_one : valid [1] = true := by decide
theorem valid_two : valid [0, 1] = false := by decide
theorem own_two {e : TypeId} (w : World) (c d : Int) (h0 : 0 ≤ c) (h1 : c < 256) (h2 : 0 ≤ d) (h3 : d < 256) : Own (w.alloc (.cells #[.int .u8 c, .int .u8 d] e)) e w.heap.size 2 2 [c, d] := ⟨by simp [Bytes]; omega, ownV_lit w [.int .u8 c, .int .u8 d] (by simp [maxLen])⟩

/-- laws.rules: the package tells a label that conforms, and one that does not. -/
theorem rules_any (w : World) (hT : TabAt w) : Calls Tryd.prog 22 #[] w fun e w' => e = .returned (.bool true) ∧ Below w.heap.size w w' := by
  have HT := Lib.hid hT; clear hT
  go_enter Tryd.func22, Tryd.ntmps22
  go_wp2_with fail
  refine (valid_any _ 1 1 [1] _ (own_one w 1 (by omega) (by omega)).lab (by omega) (HT.out.below ((Below.refl w.heap.size w).alloc (Nat.le_refl _) _))).mono ?_
  rintro e w1 ⟨rfl, hb1⟩
  have HB1 := Lib.hid (((Below.refl w.heap.size w).alloc (Nat.le_refl _) (.cells #[.int .u8 1] 5)).trans (hb1.mono (by simp))); clear hb1
  rw [valid_one]
  have HT1 := Lib.hid (HT.out.below HB1.out)
  go_wp2_with fail
  refine (valid_any _ 2 2 [0, 1] _ (own_two w1 0 1 (by omega) (by omega) (by omega) (by omega)).lab (by omega) (HT1.out.below ((Below.refl w1.heap.size w1).alloc (Nat.le_refl _) _))).mono ?_
  rintro e w2 ⟨rfl, hb2⟩
  have HB2 := Lib.hid ((HB1.out.alloc HB1.out.size (.cells #[.int .u8 0, .int .u8 1] 5)).trans (hb2.mono (by have := HB1.out.size; simp; omega))); clear hb2
  rw [valid_two]
  go_wp2
  go_ret
  exact ⟨rfl, HB2.out⟩
end Go.Proofs.YtoceibpgapjhcaaDoor
