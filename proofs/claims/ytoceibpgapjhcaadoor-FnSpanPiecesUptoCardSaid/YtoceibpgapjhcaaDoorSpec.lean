/- What the reference's functions over labels return: spec.isBack, isNeutral, isInner, IsLabel, IsBack, Has, Last, begins, Holds, Conforms, StateOf. Condition: the label is a slice of bytes of at most 140737488351232 bytes. -/
import Derived.Test.YtoceibpgapjhcaaDoorRows
import Derived.Test.YtoceibpgapjhcaaDoorBase
import Derived.Test.YtoceibpgapjhcaaDoorPlain
import Derived.Outline
import Derived.BigQuiet
import Derived.Deep.QuietTactic
namespace Go.Proofs.YtoceibpgapjhcaaDoor
open Go.RowKit
set_option linter.unusedVariables false

theorem all_next (f : Int → Bool) {L : List Int} {k : Nat} {c : Int} (h : k < L.length) (hc : c = L[k]?.getD 0) (ha : (L.take k).all f = true) (hf : f c = true) : (L.take (k + 1)).all f = true := by
  rw [take_snoc L k h, List.all_append, ha, ← hc]; simp [hf]
theorem all_false (f : Int → Bool) {L : List Int} {k : Nat} {c : Int} (h : k < L.length) (hc : c = L[k]?.getD 0) (hf : f c = false) : L.all f = false := by
  rw [split_at L k h, List.all_append, ← hc]; simp [hf]
theorem any_next (f : Int → Bool) {L : List Int} {k : Nat} {c : Int} (h : k < L.length) (hc : c = L[k]?.getD 0) (ha : (L.take k).any f = false) (hf : f c = false) : (L.take (k + 1)).any f = false := by
  rw [take_snoc L k h, List.any_append, ha, ← hc]; simp [hf]
theorem any_true (f : Int → Bool) {L : List Int} {k : Nat} {c : Int} (h : k < L.length) (hc : c = L[k]?.getD 0) (hf : f c = true) : L.any f = true := by
  rw [split_at L k h, List.any_append, ← hc]; simp [hf]

theorem bk_no {c : Int} (h : bk c = false) : (c == 1) = false ∧ (c == 13) = false ∧ (c == 5) = false := by simpa [bk, and_assoc] using h
theorem bk_yes {c : Int} (h : bk c = true) : c = 1 ∨ c = 13 ∨ c = 5 := by simpa [bk, or_assoc] using h
theorem neu_no {c : Int} (h : neu c = false) : (c == 3) = false ∧ (c == 6) = false ∧ (c == 4) = false ∧ (c == 10) = false ∧ (c == 11) = false := by simpa [neu, and_assoc] using h
theorem neu_yes {c : Int} (h : neu c = true) : c = 3 ∨ c = 6 ∨ c = 4 ∨ c = 10 ∨ c = 11 := by simpa [neu, or_assoc] using h

theorem isBack_any (c : Int) (w : World) :
    Calls Tryd.prog 36 #[.int .u8 c] w fun e w' => e = .returned (.bool (bk c)) ∧ w = w' := by
  cases h : bk c
  · obtain ⟨e1, e2, e3⟩ := bk_no h
    clear h
    go_enter Tryd.func36, Tryd.ntmps36
    go_wp2
    go_ret
    exact ⟨rfl, rfl⟩
  · rcases bk_yes h with rfl | rfl | rfl
    all_goals
      go_enter Tryd.func36, Tryd.ntmps36
      go_wp2
      go_ret
      exact ⟨rfl, rfl⟩

theorem isNeutral_any (c : Int) (w : World) :
    Calls Tryd.prog 47 #[.int .u8 c] w fun e w' => e = .returned (.bool (neu c)) ∧ w = w' := by
  cases h : neu c
  · obtain ⟨e1, e2, e3, e4, e5⟩ := neu_no h
    clear h
    go_enter Tryd.func47, Tryd.ntmps47
    go_wp2
    go_ret
    exact ⟨rfl, rfl⟩
  · rcases neu_yes h with rfl | rfl | rfl | rfl | rfl
    all_goals
      go_enter Tryd.func47, Tryd.ntmps47
      go_wp2
      go_ret
      exact ⟨rfl, rfl⟩

theorem isInner_any (c : Int) (b : Bool) (w : World) :
    Calls Tryd.prog 45 #[.int .u8 c, .bool b] w fun e w' => e = .returned (.bool (inn b c)) ∧ w = w' := by
  cases hn : neu c
  · cases h12 : (c == 12)
    · cases h2 : (c == 2)
      · cases b
        · cases h0 : (c == 0)
          all_goals
            have HI := Lib.hid (show inn false c = _ from rfl)
            have HV := Lib.hid (show inn false c = (c == 0) by unfold inn; rw [hn, h12, h2]; simp)
            clear HI
            go_enter Tryd.func45, Tryd.ntmps45
            go_wp2_with (first | (go_at_call 47; refine (isNeutral_any _ _).mono ?_; rintro e w' ⟨rfl, rfl⟩) | (go_at_call 36; refine (isBack_any _ _).mono ?_; rintro e w' ⟨rfl, rfl⟩))
            go_ret
            exact ⟨ret_bool (by rw [HV.out, h0]), rfl⟩
        · cases h0 : bk c
          all_goals
            have HV := Lib.hid (show inn true c = bk c by unfold inn; rw [hn, h12, h2]; simp)
            go_enter Tryd.func45, Tryd.ntmps45
            go_wp2_with (first | (go_at_call 47; refine (isNeutral_any _ _).mono ?_; rintro e w' ⟨rfl, rfl⟩) | (go_at_call 36; refine (isBack_any _ _).mono ?_; rintro e w' ⟨rfl, rfl⟩))
            go_ret
            exact ⟨ret_bool (by rw [HV.out, h0]), rfl⟩
      · have HV := Lib.hid (show inn b c = true by unfold inn; rw [hn, h12, h2]; simp)
        go_enter Tryd.func45, Tryd.ntmps45
        go_wp2_with (go_at_call 47; refine (isNeutral_any _ _).mono ?_; rintro e w' ⟨rfl, rfl⟩)
        go_ret
        exact ⟨ret_bool HV.out.symm, rfl⟩
    · have HV := Lib.hid (show inn b c = true by unfold inn; rw [hn, h12]; simp)
      go_enter Tryd.func45, Tryd.ntmps45
      go_wp2_with (go_at_call 47; refine (isNeutral_any _ _).mono ?_; rintro e w' ⟨rfl, rfl⟩)
      go_ret
      exact ⟨ret_bool HV.out.symm, rfl⟩
  · have HV := Lib.hid (show inn b c = true by unfold inn; rw [hn]; simp)
    go_enter Tryd.func45, Tryd.ntmps45
    go_wp2_with (go_at_call 47; refine (isNeutral_any _ _).mono ?_; rintro e w' ⟨rfl, rfl⟩)
    go_ret
    exact ⟨ret_bool HV.out.symm, rfl⟩

theorem isLabel_any (v : Value) (L : List Int) (w : World) (h : Lab w v L) (hn : L.length ≤ 140737488351232) :
    Calls Tryd.prog 17 #[v] w fun e w' => e = .returned (.bool (isLab L)) ∧ w = w' := by
  obtain ⟨hb, ⟨a, cap, rfl, rfl, _⟩ | ⟨b, off, cap, rfl, h0, hc⟩⟩ := h
  · go_enter Tryd.func17, Tryd.ntmps17
    go_wp2
    refine wp_loop_rounds 1 ?_; rw [rounds_succ]
    go_wp2
    go_ret
    exact ⟨rfl, rfl⟩
  · obtain ⟨n, hnn⟩ : ∃ n, n = L.length := ⟨_, rfl⟩
    rw [← hnn] at hc h0 hn ⊢
    have HL := Lib.hid hnn; clear hnn
    have HK := Lib.hid hc; clear hc
    have HB := Lib.hid hb; clear hb
    go_enter Tryd.func17, Tryd.ntmps17
    go_wp2
    go_loop [4, 7] (fun _ i => ∃ k : Nat, k ≤ n ∧ i = .int .i64 k ∧ (L.take k).all lab1 = true) (fun _ i => n - (intOf i).toNat)
    case atStart => exact ⟨0, Nat.zero_le _, rfl, rfl⟩
    case round =>
      obtain ⟨k, hk, rfl, hall⟩ := hrel
      have HA := Lib.hid hall; clear hall
      by_cases hlt : k < n
      · have hcell := HK.out k hlt
        obtain ⟨c, hcd⟩ : ∃ c, c = L[k]?.getD 0 := ⟨_, rfl⟩
        rw [← hcd] at hcell
        have HC := Lib.hid hcd; clear hcd
        by_cases h23 : c < 23
        · go_wp2
          go_round
          case rel => exact ⟨k + 1, by omega, by go_num, all_next lab1 (by have := HL.out; omega) HC.out HA.out (by simp [lab1, h23])⟩
          case measure => simp [intOf]; omega
        · go_wp2
          go_ret
          exact ⟨ret_bool (all_false lab1 (by have := HL.out; omega) HC.out (by simp [lab1]; omega)).symm, rfl⟩
      · go_wp2
        go_ret
        refine ⟨ret_bool ?_, rfl⟩
        have := HA.out
        rw [List.take_of_length_le (by have := HL.out; omega)] at this
        exact this.symm

theorem isBackAll_any (v : Value) (L : List Int) (w : World) (h : Lab w v L) (hn : L.length ≤ 140737488351232) :
    Calls Tryd.prog 20 #[v] w fun e w' => e = .returned (.bool (isBk L)) ∧ w = w' := by
  obtain ⟨hb, ⟨a, cap, rfl, rfl, _⟩ | ⟨b, off, cap, rfl, h0, hc⟩⟩ := h
  · go_enter Tryd.func20, Tryd.ntmps20
    go_wp2
    refine wp_loop_rounds 1 ?_; rw [rounds_succ]
    go_wp2
    go_ret
    exact ⟨rfl, rfl⟩
  · obtain ⟨n, hnn⟩ : ∃ n, n = L.length := ⟨_, rfl⟩
    rw [← hnn] at hc h0 hn ⊢
    have HL := Lib.hid hnn; clear hnn
    have HK := Lib.hid hc; clear hc
    have HB := Lib.hid hb; clear hb
    go_enter Tryd.func20, Tryd.ntmps20
    go_wp2
    go_loop [4, 7] (fun _ i => ∃ k : Nat, k ≤ n ∧ i = .int .i64 k ∧ (L.take k).any bk = false) (fun _ i => n - (intOf i).toNat)
    case atStart => exact ⟨0, Nat.zero_le _, rfl, rfl⟩
    case round =>
      obtain ⟨k, hk, rfl, hall⟩ := hrel
      have HA := Lib.hid hall; clear hall
      by_cases hlt : k < n
      · have hcell := HK.out k hlt
        obtain ⟨c, hcd⟩ : ∃ c, c = L[k]?.getD 0 := ⟨_, rfl⟩
        rw [← hcd] at hcell
        have HC := Lib.hid hcd; clear hcd
        cases hbk : bk c
        · go_wp2_with (go_at_call 36; refine (isBack_any _ _).mono ?_; rintro e w' ⟨rfl, rfl⟩)
          go_round
          case rel => exact ⟨k + 1, by omega, by go_num, any_next bk (by have := HL.out; omega) HC.out HA.out hbk⟩
          case measure => simp [intOf]; omega
        · go_wp2_with (go_at_call 36; refine (isBack_any _ _).mono ?_; rintro e w' ⟨rfl, rfl⟩)
          go_ret
          exact ⟨ret_bool (any_true bk (by have := HL.out; omega) HC.out hbk).symm, rfl⟩
      · go_wp2
        go_ret
        refine ⟨ret_bool ?_, rfl⟩
        have := HA.out
        rw [List.take_of_length_le (by have := HL.out; omega)] at this
        exact this.symm

theorem has_any (v : Value) (x : Int) (L : List Int) (w : World) (h : Lab w v L) (hn : L.length ≤ 140737488351232) :
    Calls Tryd.prog 25 #[v, .int .u8 x] w fun e w' => e = .returned (.bool (has x L)) ∧ w = w' := by
  obtain ⟨hb, ⟨a, cap, rfl, rfl, _⟩ | ⟨b, off, cap, rfl, h0, hc⟩⟩ := h
  · go_enter Tryd.func25, Tryd.ntmps25
    go_wp2
    refine wp_loop_rounds 1 ?_; rw [rounds_succ]
    go_wp2
    go_ret
    exact ⟨rfl, rfl⟩
  · obtain ⟨n, hnn⟩ : ∃ n, n = L.length := ⟨_, rfl⟩
    rw [← hnn] at hc h0 hn ⊢
    have HL := Lib.hid hnn; clear hnn
    have HK := Lib.hid hc; clear hc
    have HB := Lib.hid hb; clear hb
    go_enter Tryd.func25, Tryd.ntmps25
    go_wp2
    go_loop [6, 9] (fun _ i => ∃ k : Nat, k ≤ n ∧ i = .int .i64 k ∧ (L.take k).any (· == x) = false) (fun _ i => n - (intOf i).toNat)
    case atStart => exact ⟨0, Nat.zero_le _, rfl, rfl⟩
    case round =>
      obtain ⟨k, hk, rfl, hall⟩ := hrel
      have HA := Lib.hid hall; clear hall
      by_cases hlt : k < n
      · have hcell := HK.out k hlt
        obtain ⟨c, hcd⟩ : ∃ c, c = L[k]?.getD 0 := ⟨_, rfl⟩
        rw [← hcd] at hcell
        have HC := Lib.hid hcd; clear hcd
        cases hbk : (c == x)
        · have HX := Lib.hid (any_next (· == x) (by have := HL.out; omega) HC.out HA.out hbk)
          go_wp2
          go_round
          case rel => exact ⟨k + 1, by omega, by go_num, HX.out⟩
          case measure => simp [intOf]; omega
        · have HX := Lib.hid (any_true (· == x) (by have := HL.out; omega) HC.out hbk)
          go_wp2
          go_ret
          exact ⟨ret_bool HX.out.symm, rfl⟩
      · go_wp2
        go_ret
        refine ⟨ret_bool ?_, rfl⟩
        have := HA.out
        rw [List.take_of_length_le (by have := HL.out; omega)] at this
        exact this.symm

theorem last_take (L : List Int) (k : Nat) (c : Int) (h : k < L.length) (hc : c = L[k]?.getD 0) : last (L.take (k + 1)) = if c = 12 then last (L.take k) else c := by
  rw [take_snoc L k h, last_snoc, hc]
theorem ret_two {a b : Value} {a' b' : Value} (h : a = a') (h2 : b = b') : Ending.returned (.tuple #[a, b]) = .returned (.tuple #[a', b']) := by rw [h, h2]
theorem val_u8 {a b : Int} (h : a = b) : Value.int .u8 a = .int .u8 b := by rw [h]
theorem val_bool {a b : Bool} (h : a = b) : Value.bool a = .bool b := by rw [h]

def LastPost (L : List Int) (w : World) (e : Ending) (w' : World) : Prop := ∃ b : Bool, e = .returned (.tuple #[.int .u8 (last L), .bool b]) ∧ w = w'
theorem last_any (v : Value) (L : List Int) (w : World) (h : Lab w v L) (hn : L.length ≤ 140737488351232) :
    Calls Tryd.prog 46 #[v] w (LastPost L w) := by
  obtain ⟨hb, ⟨a, cap, rfl, rfl, _⟩ | ⟨b, off, cap, rfl, h0, hc⟩⟩ := h
  · go_enter Tryd.func46, Tryd.ntmps46
    go_wp2
    refine wp_loop_rounds 1 ?_; rw [rounds_succ]
    go_wp2
    go_ret2
    exact ⟨false, rfl, rfl⟩
  · obtain ⟨n, hnn⟩ : ∃ n, n = L.length := ⟨_, rfl⟩
    rw [← hnn] at hc h0 hn
    have HL := Lib.hid hnn
    rw [← hnn]
    clear hnn
    have HK := Lib.hid hc; clear hc
    have HB := Lib.hid hb; clear hb
    go_enter Tryd.func46, Tryd.ntmps46
    go_wp2
    go_loop [4] (fun i => (∃ k : Nat, k < n ∧ i = .int .i64 k ∧ last L = last (L.take (k + 1))) ∨ (i = .int .i64 (-1) ∧ last L = 0)) (fun i => (intOf i + 1).toNat)
    case atStart =>
      refine .inl ⟨n - 1, by omega, ?_, ?_⟩
      · first | rfl | go_num | (congr 1; omega)
      · rw [List.take_of_length_le (by have := HL.out; omega)]
    case round =>
      rcases hrel with ⟨k, hk, rfl, hl⟩ | ⟨rfl, hl⟩
      · have hcell := HK.out k hk
        obtain ⟨c, hcd⟩ : ∃ c, c = L[k]?.getD 0 := ⟨_, rfl⟩
        rw [← hcd] at hcell
        rw [last_take L k c (by have := HL.out; omega) hcd] at hl
        have HC := Lib.hid hcd; clear hcd
        have HLL := Lib.hid hl; clear hl
        cases he : (c == 12)
        · have hne : (c != 12) = true := by simp only [bne, he]; rfl
          go_wp2
          go_ret2
          have := HLL.out
          rw [if_neg (by simpa using he)] at this
          exact ⟨true, ret_two (val_u8 this.symm) rfl, rfl⟩
        · have hne : (c != 12) = false := by simp only [bne, he]; rfl
          have HX := Lib.hid (show last L = last (L.take k) by have := HLL.out; rwa [if_pos (by simpa using he)] at this)
          go_wp2
          go_round
          case rel =>
            rcases k with _ | j
            · exact .inr ⟨by go_num, HX.out⟩
            · exact .inl ⟨j, by omega, by go_num, HX.out⟩
          case measure => simp [intOf]
      · have HLL := Lib.hid hl; clear hl
        go_wp2
        go_ret2
        exact ⟨false, ret_two (val_u8 HLL.out.symm) rfl, rfl⟩

theorem bg1_head {L : List Int} {c : Int} (h : L.headD 0 = c) : bg1 L = (c == 1 || c == 13) := by unfold bg1; rw [h]
theorem bg2_head {L : List Int} {c : Int} (h : L.headD 0 = c) : bg2 L = (c == 1 || c == 13 || c == 0) := by unfold bg2 bg1; rw [h]
def BegPost (L : List Int) (w : World) (e : Ending) (w' : World) : Prop := e = .returned (.tuple #[.bool (bg1 L), .bool (bg2 L)]) ∧ Below w.heap.size w w'
theorem begins_some (b off n cap : Nat) (c : Int) (L : List Int) (w : World) (hc : w.cell? ⟨b, off, none⟩ = some (.int .u8 c)) (h : L.headD 0 = c) (h0 : 0 < n) :
    Calls Tryd.prog 35 #[.slice (some ⟨b, off, none⟩) n cap] w (BegPost L w) := by
  have H1 := Lib.hid (bg1_head h)
  have H2 := Lib.hid (bg2_head h)
  clear h
  cases e1 : (c == 1)
  · cases e13 : (c == 13)
    · cases e0 : (c == 0)
      all_goals
        go_enter Tryd.func35, Tryd.ntmps35
        go_wp2
        go_quiet (fail)
        go_wp2
        go_ret2
        exact ⟨ret_two (val_bool (by rw [H1.out, e1, e13]; rfl)) (val_bool (by rw [H2.out, e1, e13, e0]; rfl)), below_drewN (Below.refl _ _) _⟩
    · go_enter Tryd.func35, Tryd.ntmps35
      go_wp2
      go_quiet (fail)
      go_wp2
      go_ret2
      exact ⟨ret_two (val_bool (by rw [H1.out, e1, e13]; rfl)) (val_bool (by rw [H2.out, e1, e13]; rfl)), below_drewN (Below.refl _ _) _⟩
  · go_enter Tryd.func35, Tryd.ntmps35
    go_wp2
    go_quiet (fail)
    go_wp2
    go_ret2
    exact ⟨ret_two (val_bool (by rw [H1.out, e1]; rfl)) (val_bool (by rw [H2.out, e1]; rfl)), below_drewN (Below.refl _ _) _⟩

/-- A label that is not empty: its first class lies at its address. -/
theorem begins_any (a : Option Addr) (n cap : Nat) (L : List Int) (w : World) (h : Lab w (.slice a n cap) L) (h0 : 0 < n) : Calls Tryd.prog 35 #[.slice a n cap] w (BegPost L w) := by
  rcases h.2 with ⟨a', cap', hv, hL, _⟩ | ⟨b, off, cap', hv, h1, hc⟩
  · injection hv with h1 h2 h3; omega
  · injection hv with h2 h3 h4
    subst h2
    refine begins_some b off n cap (L[0]?.getD 0) L w (hc 0 h1) ?_ h0
    cases L <;> rfl

theorem all_step (f : Int → Bool) {L : List Int} {k : Nat} {c : Int} (h : k < L.length) (hc : c = L[k]?.getD 0) : (L.take (k + 1)).all f = ((L.take k).all f && f c) := by
  rw [take_snoc L k h, List.all_append, ← hc]; simp
theorem lab_some {w : World} {b off n cap : Nat} {L : List Int} (h : Lab w (.slice (some ⟨b, off, none⟩) n cap) L) (i : Nat) (hi : i < n) : w.cell? ⟨b, off + i, none⟩ = some (.int .u8 (L[i]?.getD 0)) := by
  rcases h.2 with ⟨a', cap', hv, hL, _⟩ | ⟨b', off', cap', hv, h1, hc⟩
  · injection hv with h1 h2 h3; omega
  · injection hv with h2 h3 h4
    injection h2 with h2
    injection h2 with h5 h6
    subst h5 h6
    exact hc i (by omega)

def HoldPost (L : List Int) (w : World) (e : Ending) (w' : World) : Prop := e = .returned (.tuple #[.bool (hold L), .bool (fin L)]) ∧ Below w.heap.size w w'
set_option maxHeartbeats 1000000 in
theorem holds_some (b off n cap : Nat) (L : List Int) (w : World) (hb : Lab w (.slice (some ⟨b, off, none⟩) n cap) L) (h0 : 0 < n) (hn : n ≤ 140737488351232) :
    Calls Tryd.prog 34 #[.slice (some ⟨b, off, none⟩) n cap] w (HoldPost L w) := by
  have HB := Lib.hid hb
  have HL := Lib.hid hb.len
  clear hb
  go_enter Tryd.func34, Tryd.ntmps34
  go_wp2_with fail
  refine (begins_any _ _ _ L _ HB.out h0).mono ?_
  rintro e w1 ⟨rfl, hb1⟩
  have HB1 := Lib.hid hb1; clear hb1
  obtain ⟨p, hp⟩ : ∃ p, p = bg1 L := ⟨_, rfl⟩
  obtain ⟨q, hq⟩ : ∃ q, q = bg2 L := ⟨_, rfl⟩
  rw [← hp, ← hq]
  have HP := Lib.hid hp; clear hp
  have HQ := Lib.hid hq; clear hq
  have HK := Lib.hid (fun i hi => lab_some (HB.out.below HB1.out) i hi)
  have HLab := Lib.hid (HB.out.below HB1.out)
  go_wp2
  go_loop [5, 7, 17] (fun x _ i => ∃ (k : Nat) (t : Bool), k ≤ n ∧ i = .int .i64 k ∧ x = .bool t ∧ t = (q && (L.take k).all (inn p))) (fun _ _ i => n - (intOf i).toNat)
  case atStart => exact ⟨0, q, Nat.zero_le _, rfl, rfl, by simp⟩
  case round =>
    obtain ⟨k, t, hk, rfl, rfl, ht⟩ := hrel
    have HX := Lib.hid ht; clear ht
    by_cases hlt : k < n
    · have hcell := HK.out k hlt
      obtain ⟨c, hcd⟩ : ∃ c, c = L[k]?.getD 0 := ⟨_, rfl⟩
      rw [← hcd] at hcell
      have HS := Lib.hid (all_step (inn p) (by have := HL.out; omega) hcd)
      clear hcd
      cases t
      · go_wp2
        go_round
        case rel => exact ⟨k + 1, false, by omega, by go_num, rfl, by rw [HS.out, ← Bool.and_assoc, ← HX.out]; rfl⟩
        case measure => simp [intOf]; omega
      · obtain ⟨y, hy⟩ : ∃ y, y = inn p c := ⟨_, rfl⟩
        have HY := Lib.hid hy; clear hy
        go_wp2_with fail
        refine (isInner_any _ _ _).mono ?_
        rintro e w' ⟨rfl, rfl⟩
        rw [← HY.out]
        go_wp2
        go_round
        case rel => exact ⟨k + 1, y, by omega, by go_num, rfl, by rw [HS.out, ← Bool.and_assoc, ← HX.out, HY.out]; rfl⟩
        case measure => simp [intOf]; omega
    · have HT := Lib.hid (show L.take k = L from List.take_of_length_le (by have := HL.out; omega))
      have HH := Lib.hid (show hold L = (t && !(p && has 2 L && has 5 L)) by unfold hold; rw [HX.out, HT.out, HP.out, HQ.out])
      have hlen : L.length ≤ 140737488351232 := by have := HL.out; omega
      obtain ⟨z, hz⟩ : ∃ z, z = last L := ⟨_, rfl⟩
      have HZ := Lib.hid hz; clear hz
      have HF := Lib.hid (show fin L = (hold L && !neu z) by rw [HZ.out]; rfl)
      cases p
      · cases t
        all_goals
          go_wp2_with (first | (go_at_call 25; refine (has_any _ _ L _ HLab.out hlen).mono ?_; rintro e w' ⟨rfl, rfl⟩) | (go_at_call 46; refine (last_any _ L _ HLab.out hlen).mono ?_; rintro e w' ⟨b, rfl, rfl⟩; rw [← HZ.out]) | (go_at_call 47; refine (isNeutral_any _ _).mono ?_; rintro e w' ⟨rfl, rfl⟩))
          go_ret2
          exact ⟨ret_two (val_bool (by rw [HH.out]; rfl)) (val_bool (by rw [HF.out, HH.out]; rfl)), HB1.out⟩
      · cases h2 : has 2 L
        · cases t
          all_goals
            go_wp2_with (first | (go_at_call 25; refine (has_any _ _ L _ HLab.out hlen).mono ?_; rintro e w' ⟨rfl, rfl⟩) | (go_at_call 46; refine (last_any _ L _ HLab.out hlen).mono ?_; rintro e w' ⟨b, rfl, rfl⟩; rw [← HZ.out]) | (go_at_call 47; refine (isNeutral_any _ _).mono ?_; rintro e w' ⟨rfl, rfl⟩))
            go_ret2
            exact ⟨ret_two (val_bool (by rw [HH.out, h2]; rfl)) (val_bool (by rw [HF.out, HH.out, h2]; rfl)), HB1.out⟩
        · cases h5 : has 5 L
          · cases t
            all_goals
              go_wp2_with (first | (go_at_call 25; refine (has_any _ _ L _ HLab.out hlen).mono ?_; rintro e w' ⟨rfl, rfl⟩) | (go_at_call 46; refine (last_any _ L _ HLab.out hlen).mono ?_; rintro e w' ⟨b, rfl, rfl⟩; rw [← HZ.out]) | (go_at_call 47; refine (isNeutral_any _ _).mono ?_; rintro e w' ⟨rfl, rfl⟩))
              go_ret2
              exact ⟨ret_two (val_bool (by rw [HH.out, h2, h5]; rfl)) (val_bool (by rw [HF.out, HH.out, h2, h5]; rfl)), HB1.out⟩
          · go_wp2_with (first | (go_at_call 25; refine (has_any _ _ L _ HLab.out hlen).mono ?_; rintro e w' ⟨rfl, rfl⟩) | (go_at_call 46; refine (last_any _ L _ HLab.out hlen).mono ?_; rintro e w' ⟨b, rfl, rfl⟩; rw [← HZ.out]) | (go_at_call 47; refine (isNeutral_any _ _).mono ?_; rintro e w' ⟨rfl, rfl⟩))
            go_ret2
            exact ⟨ret_two (val_bool (by rw [HH.out, h2, h5]; simp)) (val_bool (by rw [HF.out, HH.out, h2, h5]; simp)), HB1.out⟩
end Go.Proofs.YtoceibpgapjhcaaDoor
