/- The laws laws.FnTransformed, FnTransformedShort return true for every input, where the transitions are as listed and the sentinels stand apart; nothing that was there is written. -/
import Derived.Test.YtoceibpgapjhcaaDoorTransd2
import Derived.Test.YtoceibpgapjhcaaDoorSame
import Derived.Test.YtoceibpgapjhcaaDoorLaw1
namespace Go.Proofs.YtoceibpgapjhcaaDoor
open Go.RowKit
set_option linter.unusedVariables false

theorem fine_conf (L : List Int) (hb : Bytes' L) : fineR (run init L) = conf L := by
  rw [← valid_conf L hb]
  unfold fineR valid
  cases hok : (run init L).ok
  · rfl
  · have h : (run init L).n = 0 + L.length := run_ok_n L 0 0 0 hok
    have : decide (L.length ≤ (run init L).n) = true := decide_eq_true (by omega)
    rw [this]; simp
theorem conf_n (L : List Int) (hb : Bytes' L) (h : conf L = true) : (run init L).n = L.length := by
  rw [← fine_conf L hb] at h
  unfold fineR at h
  rw [Bool.and_eq_true] at h
  have := run_ok_n L 0 0 0 h.1
  simpa [init] using this
theorem transformed_room (a : Option Addr) (n cap : Nat) (Lb : List Int) (a' : Option Addr) (n' cap' : Nat) (L : List Int) (m : Nat) (room : Int) (hr : room = m) (E : Addr) (rn : Nat) (ev : Value) (sd : Int) (w : World) (h : Lab w (.slice a n cap) Lb) (h' : Lab w (.slice a' n' cap') L)
    (hn : n ≤ 2147483647) (hn' : n' ≤ 2147483647) (hm : m ≤ 10000) (hT : TabAt w) (hE : w.cell? ⟨0, 0, none⟩ = some (.iface 88 (.pointer (some E))))
    (hsec : Second L n' m w E rn ev) (hsays : Says w ev sd) : Calls Tryd.prog 31 #[.slice a n cap, .slice a' n' cap', .int .i64 room] w (TransPost w m L rn sd) := by
  subst hr; exact transformed_any a n cap Lb a' n' cap' L m E rn ev sd w h h' hn hn' hm hT hE hsec hsays

def FirstPost (w : World) (e : Ending) (w' : World) : Prop := ∃ gd, e = .returned (.tuple #[.slice (some ⟨gd, 0, none⟩) 1 9, .int .i64 1, .int .i64 0]) ∧ Below w.heap.size w w'
theorem first_trans (E : Addr) (w : World) (hT : TabAt w) (hE : w.cell? ⟨0, 0, none⟩ = some (.iface 88 (.pointer (some E)))) (o : Obj) (ho : o = .cells #[.int .u8 1] 5) :
    Calls Tryd.prog 31 #[.slice none 0 0, .slice (some ⟨w.heap.size, 0, none⟩) 1 1, .int .i64 9] (w.alloc o) (FirstPost w) := by
  subst ho
  have hb := (Below.refl w.heap.size w).alloc (Nat.le_refl _) (.cells #[.int .u8 1] 5)
  have h1 : Own (w.alloc (.cells #[.int .u8 1] 5)) 5 w.heap.size 1 1 [1] := own_one w 1 (by omega) (by omega)
  refine (transformed_room none 0 0 [] (some ⟨w.heap.size, 0, none⟩) 1 1 [1] 9 9 rfl E 1 .nilIface 0 (w.alloc (.cells #[.int .u8 1] 5)) ⟨by simp [Bytes], .inl ⟨none, 0, rfl, rfl, fun _ => rfl⟩⟩ h1.lab (by omega) (by omega) (by omega) (hT.below hb)
    ((hb.cell (p := ⟨0, 0, none⟩) (World.block_lt_of_cell? w _ hE)).trans hE) (.inl ⟨by omega, rfl, rfl⟩) (fun w' _ => said_nil w')).mono ?_
  rintro e w' ⟨gd, rfl, _, h⟩
  exact ⟨gd, rfl, hb.trans (h.mono (by simp))⟩

theorem transformed_long (a : Option Addr) (n cap : Nat) (a' : Option Addr) (n' cap' : Nat) (w : World) (hm : n ≤ 9223372036854775807) (hm' : n' ≤ 9223372036854775807) (h : ¬ (n ≤ 2147483647 ∧ n' ≤ 2147483647)) :
    Calls Tryd.prog 14 #[.slice a n cap, .slice a' n' cap'] w (LawPost w) := by
  by_cases h1 : n ≤ 2147483647
  · have h2 : ¬ n' ≤ 2147483647 := fun h2 => h ⟨h1, h2⟩
    clear h
    go_enter Tryd.func14, Tryd.ntmps14
    go_wp2
    go_ret
    exact ⟨rfl, Below.refl _ _⟩
  · clear h
    go_enter Tryd.func14, Tryd.ntmps14
    go_wp2
    go_ret
    exact ⟨rfl, Below.refl _ _⟩

set_option maxRecDepth 100000 in
set_option maxHeartbeats 4000000 in
theorem transformed_short (a : Option Addr) (n cap : Nat) (a' : Option Addr) (n' cap' : Nat) (L M : List Int) (E : Addr) (w : World) (h : Lab w (.slice a n cap) L) (h' : Lab w (.slice a' n' cap') M) (hn : n ≤ 2147483647) (hn' : n' ≤ 2147483647) (hT : TabAt w)
    (hE : w.cell? ⟨0, 0, none⟩ = some (.iface 88 (.pointer (some E)))) :
    Calls Tryd.prog 14 #[.slice a n cap, .slice a' n' cap'] w (LawPost w) := by
  have HH := Lib.hid h
  have HL := Lib.hid h.len
  have HH' := Lib.hid h'
  have HL' := Lib.hid h'.len
  have HBy := Lib.hid (show Bytes' M from h'.1)
  have HT := Lib.hid hT
  have HE : Hid (∀ W, Below w.heap.size w W → W.cell? ⟨0, 0, none⟩ = some (.iface 88 (.pointer (some E)))) := Lib.hid fun W hb => (hb.cell (p := ⟨0, 0, none⟩) (World.block_lt_of_cell? w _ hE)).trans hE
  have HF := Lib.hid (first_trans E w hT hE)
  clear h h' hT hE
  go_enter Tryd.func14, Tryd.ntmps14
  go_wp2_with fail
  refine (HF.out _ rfl).mono ?_
  rintro e w1 ⟨gd, rfl, hb⟩
  have HB1 := Lib.hid hb; clear hb HF
  go_wp2_with fail
  refine (isLabel_any _ L _ (HH.out.below HB1.out) (by have := HL.out; omega)).mono ?_
  rintro e w' ⟨rfl, rfl⟩
  cases e1 : isLab L
  · go_wp2
    go_ret
    exact ⟨rfl, HB1.out⟩
  clear e1
  go_wp2_with fail
  refine (isLabel_any _ M _ (HH'.out.below HB1.out) (by have := HL'.out; omega)).mono ?_
  rintro e w' ⟨rfl, rfl⟩
  cases e2 : isLab M
  · go_wp2
    go_ret
    exact ⟨rfl, HB1.out⟩
  clear e2
  by_cases hbig : 9000 < n'
  · go_wp2
    go_ret
    exact ⟨rfl, HB1.out⟩
  have HFC := Lib.hid (fine_conf M HBy.out)
  have HCN := Lib.hid (conf_n M HBy.out)
  cases ec : conf M
  · rw [ec] at HFC
    have HEC := Lib.hid ec; clear ec
    go_wp2_with fail
    refine (transformed_room _ _ _ L _ _ _ M (n' + 3) _ (by omega) E (run init M).n (.iface 88 (.pointer (some E))) 1 _ (HH.out.below HB1.out) (HH'.out.below HB1.out) hn hn' (by omega) (HT.out.below HB1.out) (HE.out _ HB1.out)
      (.inl ⟨by omega, rfl, by rw [HFC.out]; rfl⟩) (fun w' hb => said_invalid E w' (HE.out _ (HB1.out.trans (hb.mono HB1.out.size))))).mono ?_
    rintro e w2 ⟨gd2, rfl, _, hb⟩
    have HB2 := Lib.hid (HB1.out.trans (hb.mono HB1.out.size)); clear hb
    generalize (run init M).n = rn
    go_wp2_with fail
    refine (conforms_any _ _ _ M _ (HH'.out.below HB2.out) (by omega)).mono ?_
    rintro e w3 ⟨rfl, hb⟩
    have HB3 := Lib.hid (HB2.out.trans (hb.mono HB2.out.size)); clear hb
    rw [HEC.out]
    go_wp2
    go_ret
    exact ⟨rfl, HB3.out⟩
  · rw [ec] at HFC
    have HEC := Lib.hid ec; clear ec
    have HN := Lib.hid ((HCN.out HEC.out).trans HL'.out)
    go_wp2_with fail
    refine (transformed_room _ _ _ L _ _ _ M (n' + 3) _ (by omega) E n' .nilIface 0 _ (HH.out.below HB1.out) (HH'.out.below HB1.out) hn hn' (by omega) (HT.out.below HB1.out) (HE.out _ HB1.out)
      (.inl ⟨by omega, HN.out.symm, by rw [HFC.out]; rfl⟩) (fun w' hb => said_nil w')).mono ?_
    rintro e w2 ⟨gd2, rfl, hlab, hb⟩
    have HB2 := Lib.hid (HB1.out.trans (hb.mono HB1.out.size)); clear hb
    have HLAB := Lib.hid hlab; clear hlab
    go_wp2_with fail
    refine (conforms_any _ _ _ M _ (HH'.out.below HB2.out) (by omega)).mono ?_
    rintro e w3 ⟨rfl, hb⟩
    have HLAB3 := Lib.hid (HLAB.out.below hb)
    have HB3 := Lib.hid (HB2.out.trans (hb.mono HB2.out.size)); clear hb
    rw [HEC.out]
    go_wp2_with fail
    refine (same_any _ _ M _ ?_ (HH'.out.below HB3.out) (by have := HL'.out; omega)).mono ?_
    · have := HLAB3.out
      rwa [List.take_of_length_le (by have := HL'.out; omega)] at this
    rintro e w4 ⟨rfl, q, rfl⟩
    go_wp2
    go_ret
    exact ⟨rfl, below_drewN HB3.out _⟩
end Go.Proofs.YtoceibpgapjhcaaDoor
