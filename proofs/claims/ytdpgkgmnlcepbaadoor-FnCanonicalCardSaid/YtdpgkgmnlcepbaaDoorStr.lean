/- The functions over texts that the laws of proxy.go reach: spec.isLower, isDigit, IsName, IsPort, and package httpproxy's isASCII. Condition: the text has at most 9223372036854775807 bytes. -/
import Derived.Test.YtdpgkgmnlcepbaaDoorRows
import Derived.WalkKit
import Derived.WalkSpells
import Derived.WalkLawsBesides
import Derived.Lib.Hide
import Derived.Outline
import Derived.BigQuiet
import Derived.Deep.QuietTactic
namespace Go.Proofs.YtdpgkgmnlcepbaaDoor
open Go.RowKit
set_option linter.unusedVariables false

theorem ret_bool {a b : Bool} (h : a = b) : Ending.returned (.bool a) = .returned (.bool b) := by rw [h]
theorem ret_int {k : IntKind} {a b : Int} (h : a = b) : Ending.returned (.int k a) = .returned (.int k b) := by rw [h]
theorem take_snoc (s : ByteArray) (k : Nat) (h : k < s.size) : s.data.toList.take (k + 1) = s.data.toList.take k ++ [s[k]] := by
  rw [List.take_succ_eq_append_getElem (by simpa using h)]; rfl
theorem split_at (s : ByteArray) (k : Nat) (h : k < s.size) : s.data.toList = s.data.toList.take k ++ s[k] :: s.data.toList.drop (k + 1) := by
  have h1 : s.data.toList.drop k = s[k] :: s.data.toList.drop (k + 1) := by rw [List.drop_eq_getElem_cons (by simpa using h)]; rfl
  rw [← h1, List.take_append_drop]
theorem take_all (s : ByteArray) {k : Nat} (h : ¬ k < s.size) : s.data.toList.take k = s.data.toList := List.take_of_length_le (by simp; omega)

/-- What holds of every byte of the text so far. -/
def Each (p : UInt8 → Bool) (l : List UInt8) : Bool := l.all p
theorem each_next (p : UInt8 → Bool) {s : ByteArray} {k : Nat} (h : k < s.size) (ha : Each p (s.data.toList.take k) = true) (hp : p s[k] = true) : Each p (s.data.toList.take (k + 1)) = true := by
  rw [take_snoc s k h]; unfold Each at *; rw [List.all_append, ha]; simp [hp]
theorem each_not (p : UInt8 → Bool) {s : ByteArray} {k : Nat} (h : k < s.size) (hp : p s[k] = false) : Each p s.data.toList = false := by
  unfold Each; rw [split_at s k h, List.all_append]; simp [hp]
theorem each_whole (p : UInt8 → Bool) {s : ByteArray} {k : Nat} (h : ¬ k < s.size) (ha : Each p (s.data.toList.take k) = true) : Each p s.data.toList = true := by rwa [take_all s h] at ha

def lo (c : Int) : Bool := decide (97 ≤ c) && decide (c ≤ 122)
def dg (c : Int) : Bool := decide (48 ≤ c) && decide (c ≤ 57)
def a7 (b : UInt8) : Bool := decide ((b.toNat : Int) < 128)
theorem a7_yes {b : UInt8} (h : (b.toNat : Int) < 128) : a7 b = true := decide_eq_true h
theorem a7_no {b : UInt8} (h : (128 : Int) ≤ b.toNat) : a7 b = false := decide_eq_false (Int.not_lt.2 h)
def nm (b : UInt8) : Bool := lo b.toNat || ((b.toNat : Int) == 46 || (dg b.toNat || (b.toNat : Int) == 45))
def dgB (b : UInt8) : Bool := dg b.toNat

theorem isLower_any (c : Int) (w : World) : Calls Tryd.prog 9 #[.int .u8 c] w fun e w' => e = .returned (.bool (lo c)) ∧ w = w' := by
  by_cases h : 97 ≤ c
  all_goals
    go_enter Tryd.func9, Tryd.ntmps9
    go_wp2
    go_ret
    exact ⟨ret_bool (by simp [lo] <;> omega), rfl⟩
theorem isDigit_any (c : Int) (w : World) : Calls Tryd.prog 10 #[.int .u8 c] w fun e w' => e = .returned (.bool (dg c)) ∧ w = w' := by
  by_cases h : 48 ≤ c
  all_goals
    go_enter Tryd.func10, Tryd.ntmps10
    go_wp2
    go_ret
    exact ⟨ret_bool (by simp [dg] <;> omega), rfl⟩

set_option maxRecDepth 100000 in
theorem isASCII_any (s : ByteArray) (w : World) (hs : s.size ≤ 9223372036854775807) : Calls Tryd.prog 18 #[.string s] w fun e w' => e = .returned (.bool (Each a7 s.data.toList)) ∧ w = w' := by
  go_enter Tryd.func18, Tryd.ntmps18
  go_wp2
  go_loop [3] (fun i => ∃ k : Nat, k ≤ s.size ∧ i = .int .i64 k ∧ Each a7 (s.data.toList.take k) = true) (fun i => s.size - (intOf i).toNat)
  case atStart => exact ⟨0, Nat.zero_le _, rfl, rfl⟩
  case round =>
    obtain ⟨k, hk, rfl, ha⟩ := hrel
    have HA := Lib.hid ha; clear ha
    by_cases hlt : k < s.size
    · go_wp2
      · go_ret
        have hc : (128 : Int) ≤ (s[k].toNat : Int) := by assumption
        exact ⟨ret_bool (each_not a7 hlt (a7_no hc)).symm, rfl⟩
      · go_round
        case rel =>
          have hc : (s[k].toNat : Int) < 128 := by assumption
          exact ⟨k + 1, by omega, by go_num, each_next a7 hlt HA.out (a7_yes hc)⟩
        case measure => simp [intOf]; omega
    · go_wp2
      go_ret
      exact ⟨ret_bool (each_whole a7 hlt HA.out).symm, rfl⟩

/-- What is known where spec.IsName says yes. -/
def Name (s : ByteArray) : Prop := Each nm s.data.toList = true ∧ s.size ≤ 100 ∧ 0 < s.size
def Port (s : ByteArray) : Prop := Each dgB s.data.toList = true ∧ 1 ≤ s.size ∧ s.size ≤ 5
def SomeBool (P : Prop) (w : World) (e : Ending) (w' : World) : Prop := ∃ b : Bool, e = .returned (.bool b) ∧ (b = true → P) ∧ w = w'

/-- The text so far, and whether a word has begun. -/
def NameTo (s : ByteArray) (k : Nat) (f : Bool) : Prop := k ≤ s.size ∧ Each nm (s.data.toList.take k) = true ∧ (f = false → 0 < k)
theorem nm_lo {b : UInt8} (h : lo b.toNat = true) : nm b = true := by simp [nm, h]
theorem nm_dot {b : UInt8} (h : ((b.toNat : Int) == 46) = true) : nm b = true := by simp [nm, h]
theorem nm_dg {b : UInt8} (h : dg b.toNat = true) : nm b = true := by simp [nm, h]
theorem nm_dash {b : UInt8} (h : ((b.toNat : Int) == 45) = true) : nm b = true := by simp [nm, h]
theorem nameTo_next {s : ByteArray} {k : Nat} {f f' : Bool} (hlt : k < s.size) (h : NameTo s k f) (hb : nm s[k] = true) : NameTo s (k + 1) f' := ⟨hlt, each_next nm hlt h.2.1 hb, fun _ => Nat.succ_pos _⟩
theorem some_no {P : Prop} (w : World) : SomeBool P w (.returned (.bool false)) w := ⟨false, rfl, fun h => by simp at h, rfl⟩
theorem some_yes {P : Prop} (w : World) (h : P) : SomeBool P w (.returned (.bool true)) w := ⟨true, rfl, fun _ => h, rfl⟩

theorem isName_any (s : ByteArray) (w : World) (hs : s.size ≤ 9223372036854775807) : Calls Tryd.prog 4 #[.string s] w (SomeBool (Name s) w) := by
  go_enter Tryd.func4, Tryd.ntmps4
  go_wp2
  go_loop [3, 4, 7] (fun f _ i => ∃ (k : Nat) (b : Bool), i = .int .i64 k ∧ f = .bool b ∧ NameTo s k b) (fun _ _ i => s.size - (intOf i).toNat)
  case atStart => exact ⟨0, true, rfl, rfl, Nat.zero_le _, rfl, fun h => by cases h⟩
  case round =>
    obtain ⟨k, b, rfl, rfl, ha⟩ := hrel
    have hk := ha.1
    have HA := Lib.hid ha; clear ha
    by_cases hlt : k < s.size
    · cases hlo : lo (s[k].toNat : Int)
      · cases b
        · cases h46 : ((s[k].toNat : Int) == 46)
          · cases hdg : dg (s[k].toNat : Int)
            · cases h45 : ((s[k].toNat : Int) == 45)
              · have hn45 : ((s[k].toNat : Int) != 45) = true := by simp only [bne, h45]; rfl
                go_wp2_with (first | (go_at_call 9; refine (isLower_any _ _).mono ?_; rintro e w' ⟨rfl, rfl⟩) | (go_at_call 10; refine (isDigit_any _ _).mono ?_; rintro e w' ⟨rfl, rfl⟩))
                go_ret
                exact some_no _
              · have hn45 : ((s[k].toNat : Int) != 45) = false := by simp only [bne, h45]; rfl
                have HN := Lib.hid (nameTo_next (f' := false) hlt HA.out (nm_dash h45))
                go_wp2_with (first | (go_at_call 9; refine (isLower_any _ _).mono ?_; rintro e w' ⟨rfl, rfl⟩) | (go_at_call 10; refine (isDigit_any _ _).mono ?_; rintro e w' ⟨rfl, rfl⟩))
                go_round
                case rel => exact ⟨k + 1, false, by go_num, rfl, HN.out⟩
                case measure => simp [intOf]; omega
            · have HN := Lib.hid (nameTo_next (f' := false) hlt HA.out (nm_dg hdg))
              go_wp2_with (first | (go_at_call 9; refine (isLower_any _ _).mono ?_; rintro e w' ⟨rfl, rfl⟩) | (go_at_call 10; refine (isDigit_any _ _).mono ?_; rintro e w' ⟨rfl, rfl⟩))
              go_round
              case rel => exact ⟨k + 1, false, by go_num, rfl, HN.out⟩
              case measure => simp [intOf]; omega
          · have HN := Lib.hid (nameTo_next (f' := true) hlt HA.out (nm_dot h46))
            go_wp2_with (first | (go_at_call 9; refine (isLower_any _ _).mono ?_; rintro e w' ⟨rfl, rfl⟩) | (go_at_call 10; refine (isDigit_any _ _).mono ?_; rintro e w' ⟨rfl, rfl⟩))
            go_round
            case rel => exact ⟨k + 1, true, by go_num, rfl, HN.out⟩
            case measure => simp [intOf]; omega
        · go_wp2_with (go_at_call 9; refine (isLower_any _ _).mono ?_; rintro e w' ⟨rfl, rfl⟩)
          go_ret
          exact some_no _
      · have HN := Lib.hid (nameTo_next (f' := false) hlt HA.out (nm_lo hlo))
        go_wp2_with (go_at_call 9; refine (isLower_any _ _).mono ?_; rintro e w' ⟨rfl, rfl⟩)
        go_round
        case rel => exact ⟨k + 1, false, by go_num, rfl, HN.out⟩
        case measure => simp [intOf]; omega
    · cases b
      · have HW := Lib.hid (each_whole nm hlt HA.out.2.1)
        have HP := Lib.hid (HA.out.2.2 rfl)
        go_wp2
        go_ret
        exact ⟨_, rfl, fun h => ⟨HW.out, by have := of_decide_eq_true h; omega, by have := HP.out; omega⟩, rfl⟩
      · go_wp2
        go_ret
        exact some_no _

theorem dgB_no {b : UInt8} (h : dg b.toNat = false) : dgB b = false := h
theorem isPort_any (s : ByteArray) (w : World) (hs : s.size ≤ 9223372036854775807) : Calls Tryd.prog 5 #[.string s] w (SomeBool (Port s) w) := by
  go_enter Tryd.func5, Tryd.ntmps5
  go_wp2
  go_loop [3, 6] (fun _ i => ∃ k : Nat, k ≤ s.size ∧ i = .int .i64 k ∧ Each dgB (s.data.toList.take k) = true) (fun _ i => s.size - (intOf i).toNat)
  case atStart => exact ⟨0, Nat.zero_le _, rfl, rfl⟩
  case round =>
    obtain ⟨k, hk, rfl, ha⟩ := hrel
    have HA := Lib.hid ha; clear ha
    by_cases hlt : k < s.size
    · cases hdg : dg (s[k].toNat : Int)
      · go_wp2_with (go_at_call 10; refine (isDigit_any _ _).mono ?_; rintro e w' ⟨rfl, rfl⟩)
        go_ret
        exact some_no _
      · have HN := Lib.hid (each_next dgB hlt HA.out hdg)
        go_wp2_with (go_at_call 10; refine (isDigit_any _ _).mono ?_; rintro e w' ⟨rfl, rfl⟩)
        go_round
        case rel => exact ⟨k + 1, by omega, by go_num, HN.out⟩
        case measure => simp [intOf]; omega
    · have HW := Lib.hid (each_whole dgB hlt HA.out)
      by_cases h1 : 1 ≤ s.size
      · by_cases h5 : s.size ≤ 5
        · cases h48 : ((s[0].toNat : Int) == 48)
          · have hn48 : ((s[0].toNat : Int) != 48) = true := by simp only [bne, h48]; rfl
            go_wp2
            go_ret
            exact some_yes _ ⟨HW.out, h1, h5⟩
          · have hn48 : ((s[0].toNat : Int) != 48) = false := by simp only [bne, h48]; rfl
            go_wp2
            go_ret
            exact some_no _
        · go_wp2
          go_ret
          exact some_no _
      · go_wp2
        go_ret
        exact some_no _
end Go.Proofs.YtdpgkgmnlcepbaaDoor
