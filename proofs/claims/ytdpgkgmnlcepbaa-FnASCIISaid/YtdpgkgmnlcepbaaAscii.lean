/- The law laws.FnASCII returns true for every text, and leaves memory as it was. -/
import Derived.Test.YtdpgkgmnlcepbaaStr
namespace Go.Proofs.Ytdpgkgmnlcepbaa
open Go.RowKit
set_option linter.unusedVariables false

theorem a7_val {b : UInt8} : decide ((b.toNat : Int) < 128) = a7 b := rfl
theorem each_succ (p : UInt8 → Bool) {s : ByteArray} {k : Nat} (h : k < s.size) : Each p (s.data.toList.take (k + 1)) = (Each p (s.data.toList.take k) && p s[k]) := by
  rw [take_snoc s k h]; unfold Each; rw [List.all_append]; simp
theorem val_bool {a b : Bool} (h : a = b) : Value.bool a = .bool b := by rw [h]

theorem ascii_long (s : ByteArray) (w : World) (hs : s.size ≤ 9223372036854775807) (h : 2147483647 < s.size) : Calls Try.prog 3 #[.string s] w fun e w' => e = .returned (.bool true) ∧ w = w' := by
  go_enter Try.func3, Try.ntmps3
  go_wp2
  go_ret
  exact ⟨rfl, rfl⟩

set_option maxRecDepth 100000 in
theorem ascii_short (s : ByteArray) (w : World) (h : s.size ≤ 2147483647) : Calls Try.prog 3 #[.string s] w fun e w' => e = .returned (.bool true) ∧ w = w' := by
  go_enter Try.func3, Try.ntmps3
  go_wp2
  go_loop [3, 4, 10] (fun b _ i => ∃ k : Nat, k ≤ s.size ∧ i = .int .i64 k ∧ b = .bool (Each a7 (s.data.toList.take k))) (fun _ _ i => s.size - (intOf i).toNat)
  case atStart => exact ⟨0, Nat.zero_le _, rfl, rfl⟩
  case round =>
    obtain ⟨k, hk, rfl, rfl⟩ := hrel
    by_cases hlt : k < s.size
    · have HS := Lib.hid (each_succ a7 hlt)
      cases hb : Each a7 (s.data.toList.take k)
      · go_wp2
        go_round
        case rel => exact ⟨k + 1, by omega, by go_num, val_bool (by rw [HS.out, hb]; rfl)⟩
        case measure => simp [intOf]; omega
      · go_wp2
        go_round
        case rel => exact ⟨k + 1, by omega, by go_num, val_bool (by rw [HS.out, hb]; rfl)⟩
        case measure => simp [intOf]; omega
    · have HT := Lib.hid (take_all s hlt)
      obtain ⟨t, ht⟩ : ∃ t, t = s.data.toList.take k := ⟨_, rfl⟩
      rw [HT.out]
      have ha : Each a7 (ByteArray.mk #[97]).data.toList = true := by decide
      cases hall : Each a7 s.data.toList
      all_goals
        go_wp2_with (first | (go_at_call 18; refine (isASCII_any _ _ (by first | omega | decide)).mono ?_; rintro e w' ⟨rfl, rfl⟩) | go_in)
        go_ret
        exact ⟨rfl, rfl⟩
end Go.Proofs.Ytdpgkgmnlcepbaa
