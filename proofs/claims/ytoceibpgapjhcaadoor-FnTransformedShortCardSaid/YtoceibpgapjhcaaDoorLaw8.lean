/- The law laws.FnTransformedShort returns true for every input, where the transitions are as listed and the sentinels stand apart. -/
import Derived.Test.YtoceibpgapjhcaaDoorLaw7
namespace Go.Proofs.YtoceibpgapjhcaaDoor
open Go.RowKit
set_option linter.unusedVariables false

theorem lab_cut {w : World} {b off n cap : Nat} {L : List Int} (h : Lab w (.slice (some ⟨b, off, none⟩) n cap) L) {m : Nat} (hm : m ≤ n) : Lab w (.slice (some ⟨b, off, none⟩) m cap) (L.take m) := by
  have hl := h.len
  have hlen : (L.take m).length = m := by simp; omega
  refine ⟨fun c hc => h.1 c (List.mem_of_mem_take hc), ?_⟩
  by_cases h0 : m = 0
  · subst h0; exact .inl ⟨_, cap, rfl, by simp, fun h => by cases h⟩
  · refine .inr ⟨b, off, cap, by rw [hlen], by omega, fun i hi => ?_⟩
    rw [hlen] at hi
    rw [lab_some h i (by omega)]
    simp [hi]
theorem lab_place {w : World} {a : Option Addr} {n cap : Nat} {L : List Int} (h : Lab w (.slice a n cap) L) (h0 : 0 < n) : ∃ b off, a = some ⟨b, off, none⟩ := by
  have hl := h.len
  rcases h.2 with ⟨a', cap', hv, hL, _⟩ | ⟨b, off, cap', hv, _, _⟩
  · subst hL; simp at hl; omega
  · injection hv with h1 h2 h3; exact ⟨b, off, h1⟩

theorem short_long (a : Option Addr) (n cap : Nat) (room : Int) (w : World) (h : 2147483647 < n) (hm : n ≤ 9223372036854775807) : Calls Tryd.prog 15 #[.slice a n cap, .int .i64 room] w (LawPost w) := by
  go_enter Tryd.func15, Tryd.ntmps15
  go_wp2
  go_ret
  exact ⟨rfl, Below.refl _ _⟩

set_option maxRecDepth 100000 in
set_option maxHeartbeats 4000000 in
theorem short_short (a : Option Addr) (n cap : Nat) (room : Int) (L : List Int) (E D : Addr) (w : World) (h : Lab w (.slice a n cap) L) (hcap : n ≤ cap) (hcm : cap ≤ maxLen) (hn : n ≤ 2147483647) (hT : TabAt w) (hE : Two w E D) :
    Calls Tryd.prog 15 #[.slice a n cap, .int .i64 room] w (LawPost w) := by
  have HH := Lib.hid h
  have HL := Lib.hid h.len
  have HBy := Lib.hid (show Bytes' L from h.1)
  have HT := Lib.hid hT
  have HE : Hid (∀ W, Below w.heap.size w W → Two W E D) := Lib.hid fun W hb => hE.below hb
  have HF := Lib.hid (first_trans E w hT hE.1)
  clear h hT hE
  go_enter Tryd.func15, Tryd.ntmps15
  go_wp2_with fail
  refine (HF.out _ rfl).mono ?_
  rintro e w1 ⟨gd, rfl, hb⟩
  have HB1 := Lib.hid hb; clear hb HF
  by_cases hbig : 1000000 < n
  · go_wp2
    go_ret
    exact ⟨rfl, HB1.out⟩
  go_wp2_with fail
  refine (isLabel_any _ L _ (HH.out.below HB1.out) (by have := HL.out; omega)).mono ?_
  rintro e w' ⟨rfl, rfl⟩
  cases e1 : isLab L
  · go_wp2
    go_ret
    exact ⟨rfl, HB1.out⟩
  clear e1
  by_cases hneg : room < 0
  · go_wp2
    go_ret
    exact ⟨rfl, HB1.out⟩
  obtain ⟨m, hm⟩ : ∃ m : Nat, room = m := ⟨room.toNat, by omega⟩
  subst hm
  clear hneg
  by_cases hge : n ≤ m
  · go_wp2
    go_ret
    exact ⟨rfl, HB1.out⟩
  by_cases hbig2 : 9000 < n
  · go_wp2
    go_ret
    exact ⟨rfl, HB1.out⟩
  obtain ⟨b, off, ha⟩ := lab_place HH.out (by omega)
  subst ha
  have HC := Lib.hid (lab_cut HH.out (m := m) (by omega))
  have hbt : Bytes' (L.take m) := fun c hc => HBy.out c (List.mem_of_mem_take hc)
  have HFC := Lib.hid (fine_conf (L.take m) hbt)
  clear hbt
  go_wp2_with fail
  refine (conforms_any _ _ _ (L.take m) _ (HC.out.below HB1.out) (by omega)).mono ?_
  rintro e w3 ⟨rfl, hb⟩
  have HB3 := Lib.hid (HB1.out.trans (hb.mono HB1.out.size)); clear hb
  cases ec : conf (L.take m)
  · go_wp2
    go_ret
    exact ⟨rfl, HB3.out⟩
  rw [ec] at HFC
  clear ec
  go_wp2_with fail
  refine (transformed_room none 0 0 [] _ _ _ L m _ rfl E m (.iface 88 (.pointer (some D))) 2 _ ⟨by simp [Bytes], .inl ⟨none, 0, rfl, rfl, fun _ => rfl⟩⟩ (HH.out.below HB3.out) (by omega) hn (by omega) (HT.out.below HB3.out) (HE.out _ HB3.out).1
    (.inr ⟨by omega, HFC.out, rfl, D, (HE.out _ HB3.out).2.1, rfl⟩) (fun w' hb => said_short E D w' (HE.out _ (HB3.out.trans (hb.mono HB3.out.size))))).mono ?_
  rintro e w4 ⟨gd2, rfl, hlab, hb⟩
  have HB4 := Lib.hid (HB3.out.trans (hb.mono HB3.out.size)); clear hb
  have HLAB := Lib.hid hlab; clear hlab
  go_wp2_with fail
  refine (same_any _ _ (L.take m) _ HLAB.out (HC.out.below HB4.out) (by simp; omega)).mono ?_
  rintro e w5 ⟨rfl, q, rfl⟩
  go_wp2
  go_ret
  exact ⟨rfl, below_drewN HB4.out _⟩
end Go.Proofs.YtoceibpgapjhcaaDoor
