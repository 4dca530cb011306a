/- The law laws.FnHasPort returns true for every three texts, and leaves memory as it was. -/
import Derived.Test.YtdpgkgmnlcepbaaLix
namespace Go.Proofs.Ytdpgkgmnlcepbaa
open Go.RowKit
set_option linter.unusedVariables false

def isC (c : Int) (b : UInt8) : Bool := (b.toNat : Int) != c
/-- The text lacks the byte c. -/
theorem hasByte_any (s : ByteArray) (c : Int) (w : World) (hs : s.size ≤ 9223372036854775807) : Calls Try.prog 8 #[.string s, .int .u8 c] w fun e w' => e = .returned (.bool (!Each (isC c) s.data.toList)) ∧ w = w' := by
  go_enter Try.func8, Try.ntmps8
  go_wp2
  go_loop [5, 8] (fun _ i => ∃ k : Nat, k ≤ s.size ∧ i = .int .i64 k ∧ Each (isC c) (s.data.toList.take k) = true) (fun _ i => s.size - (intOf i).toNat)
  case atStart => exact ⟨0, Nat.zero_le _, rfl, rfl⟩
  case round =>
    obtain ⟨k, hk, rfl, ha⟩ := hrel
    have HA := Lib.hid ha; clear ha
    by_cases hlt : k < s.size
    · cases he : ((s[k].toNat : Int) == c)
      · have HN := Lib.hid (each_next (isC c) hlt HA.out (by simp only [isC, bne, he]; rfl))
        go_wp2
        go_round
        case rel => exact ⟨k + 1, by omega, by go_num, HN.out⟩
        case measure => simp [intOf]; omega
      · have HN := Lib.hid (each_not (isC c) hlt (by simp only [isC, bne, he]; rfl))
        go_wp2
        go_ret
        exact ⟨ret_bool (by rw [HN.out]; rfl), rfl⟩
    · have HN := Lib.hid (each_whole (isC c) hlt HA.out)
      go_wp2
      go_ret
      exact ⟨ret_bool (by rw [HN.out]; rfl), rfl⟩

def hp (l : List UInt8) : Bool := decide (lastI l 93 < lastI l 58)
theorem hasPort_any (s : ByteArray) (w : World) (hs : s.size ≤ 4611686018427387904) : Calls Try.prog 10 #[.string s] w fun e w' => e = .returned (.bool (hp s.data.toList)) ∧ w = w' := by
  go_enter Try.func10, Try.ntmps10
  go_wp2_with (first | (go_at_call 23; refine (lastIndex_lib _ _ _ (by omega)).mono ?_; rintro e w' ⟨rfl, rfl⟩) | go_in)
  go_ret
  exact ⟨rfl, rfl⟩

/-! the plain law -/
theorem hp_none (l : List UInt8) (h : ∀ b ∈ l, (b.toNat : Int) ≠ 58) : hp l = false := by
  unfold hp; rw [lastI_all l 58 h]; have := lastI_lt l 93; simp; omega
theorem hp_colon (a p : List UInt8) (h1 : ∀ b ∈ p, (b.toNat : Int) ≠ 58) (h2 : ∀ b ∈ p, (b.toNat : Int) ≠ 93) : hp (a ++ [58] ++ p) = true := by
  unfold hp
  rw [lastI_none _ p 58 h1, lastI_none _ p 93 h2, lastI_snoc, lastI_snoc, if_neg (by decide), if_pos (by decide)]
  have := lastI_lt a 93; simp; omega
theorem hp_shut (a : List UInt8) : hp (a ++ [93]) = false := by
  unfold hp
  rw [lastI_snoc, lastI_snoc, if_pos (by decide), if_neg (by decide)]
  have := lastI_lt a 58; simp; omega
theorem nm_ne {s : List UInt8} (h : Each nm s = true) : ∀ b ∈ s, (b.toNat : Int) ≠ 58 := by
  intro b hb
  have := List.all_eq_true.1 h b hb
  simp [nm, lo, dg] at this; omega
theorem dg_ne {s : List UInt8} (h : Each dgB s = true) : (∀ b ∈ s, (b.toNat : Int) ≠ 58) ∧ ∀ b ∈ s, (b.toNat : Int) ≠ 93 := by
  refine ⟨fun b hb => ?_, fun b hb => ?_⟩ <;> (have := List.all_eq_true.1 h b hb; simp [dgB, dg] at this; omega)

theorem cat (a b : ByteArray) : (a ++ b).data.toList = a.data.toList ++ b.data.toList := by rw [ByteArray.data_append, Array.toList_append]
theorem hp_brackets (b : ByteArray) : hp (ByteArray.mk #[91] ++ b ++ ByteArray.mk #[93]).data.toList = false := by
  rw [cat]; exact hp_shut _
theorem hp_ports (a b c : ByteArray) (h : (∀ x ∈ c.data.toList, (x.toNat : Int) ≠ 58) ∧ ∀ x ∈ c.data.toList, (x.toNat : Int) ≠ 93) :
    hp (a ++ ByteArray.mk #[58] ++ c).data.toList = true ∧ hp (ByteArray.mk #[91] ++ b ++ ByteArray.mk #[93, 58] ++ c).data.toList = true := by
  refine ⟨?_, ?_⟩
  · rw [cat, cat]; exact hp_colon _ _ h.1 h.2
  · have e : (ByteArray.mk #[91] ++ b ++ ByteArray.mk #[93, 58] ++ c).data.toList = (91 :: b.data.toList ++ [93]) ++ [58] ++ c.data.toList := by
      rw [cat, cat, cat]; simp
    rw [e]; exact hp_colon _ _ h.1 h.2

theorem z1 : (ByteArray.mk #[58]).size = 1 := rfl
theorem z2 : (ByteArray.mk #[91]).size = 1 := rfl
theorem z3 : (ByteArray.mk #[93]).size = 1 := rfl
theorem z4 : (ByteArray.mk #[93, 58]).size = 2 := rfl

theorem port_long (a b c : ByteArray) (w : World) (ha : a.size ≤ 9223372036854775807) (hb : b.size ≤ 9223372036854775807) (hc : c.size ≤ 9223372036854775807) (h : ¬ (a.size ≤ 2147483647 ∧ b.size ≤ 2147483647 ∧ c.size ≤ 2147483647)) :
    Calls Try.prog 4 #[.string a, .string b, .string c] w fun e w' => e = .returned (.bool true) ∧ w = w' := by
  by_cases h1 : 2147483647 < a.size
  · go_enter Try.func4, Try.ntmps4
    go_wp2
    go_ret
    exact ⟨rfl, rfl⟩
  · by_cases h2 : 2147483647 < b.size
    · go_enter Try.func4, Try.ntmps4
      go_wp2
      go_ret
      exact ⟨rfl, rfl⟩
    · have h3 : 2147483647 < c.size := by omega
      go_enter Try.func4, Try.ntmps4
      go_wp2
      go_ret
      exact ⟨rfl, rfl⟩

theorem hp_a1 : hp (ByteArray.mk #[97, 58, 49]).data.toList = true := by decide
theorem port_short (a b c : ByteArray) (w : World) (ha : a.size ≤ 2147483647) (hb : b.size ≤ 2147483647) (hc : c.size ≤ 2147483647) :
    Calls Try.prog 4 #[.string a, .string b, .string c] w fun e w' => e = .returned (.bool true) ∧ w = w' := by
  have HP := Lib.hid hp_a1
  go_enter Try.func4, Try.ntmps4
  go_wp2_with fail
  refine (isName_any _ _ (by omega)).mono ?_
  rintro e w1 ⟨b1, rfl, hb1, rfl⟩
  have HB1 := Lib.hid hb1; clear hb1
  cases b1
  · go_wp2_with (go_at_call 10; refine (hasPort_any _ _ (by decide)).mono ?_; rintro e w' ⟨rfl, rfl⟩)
    go_ret
    exact ⟨ret_bool HP.out, rfl⟩
  · cases e1 : Each (isC 91) b.data.toList
    · go_wp2_with (first | (go_at_call 8; refine (hasByte_any _ _ _ (by omega)).mono ?_; rintro e w' ⟨rfl, rfl⟩) | (go_at_call 10; refine (hasPort_any _ _ (by decide)).mono ?_; rintro e w' ⟨rfl, rfl⟩))
      go_ret
      exact ⟨ret_bool HP.out, rfl⟩
    · cases e2 : Each (isC 93) b.data.toList
      · go_wp2_with (first | (go_at_call 8; refine (hasByte_any _ _ _ (by omega)).mono ?_; rintro e w' ⟨rfl, rfl⟩) | (go_at_call 10; refine (hasPort_any _ _ (by decide)).mono ?_; rintro e w' ⟨rfl, rfl⟩))
        go_ret
        exact ⟨ret_bool HP.out, rfl⟩
      · go_wp2_with (first | (go_at_call 8; refine (hasByte_any _ _ _ (by omega)).mono ?_; rintro e w' ⟨rfl, rfl⟩))
        refine (isPort_any _ _ (by omega)).mono ?_
        rintro e w1 ⟨b3, rfl, hb3, rfl⟩
        have HB3 := Lib.hid hb3; clear hb3
        cases b3
        · go_wp2_with (go_at_call 10; refine (hasPort_any _ _ (by decide)).mono ?_; rintro e w' ⟨rfl, rfl⟩)
          go_ret
          exact ⟨ret_bool HP.out, rfl⟩
        · have hz1 := hp_none _ (nm_ne (HB1.out (by trivial)).1)
          have hz3 := hp_brackets b
          obtain ⟨hz2, hz4⟩ := hp_ports a b c (dg_ne (HB3.out (by trivial)).1)
          have H2 := Lib.hid hz2
          have H3 := Lib.hid hz3
          have H4 := Lib.hid hz4
          clear hz2 hz3 hz4
          go_wp2_with fail
          refine (hasPort_any _ _ (by omega)).mono ?_
          rintro e w' ⟨rfl, rfl⟩
          rw [hz1]
          clear hz1
          go_wp2_with fail
          refine (hasPort_any _ _ (by simp only [ByteArray.size_append]; have := z1; have := z2; have := z3; have := z4; omega)).mono ?_
          rintro e w' ⟨rfl, rfl⟩
          rw [H2.out]
          go_wp2_with fail
          refine (hasPort_any _ _ (by simp only [ByteArray.size_append]; have := z1; have := z2; have := z3; have := z4; omega)).mono ?_
          rintro e w' ⟨rfl, rfl⟩
          rw [H3.out]
          go_wp2_with fail
          refine (hasPort_any _ _ (by simp only [ByteArray.size_append]; have := z1; have := z2; have := z3; have := z4; omega)).mono ?_
          rintro e w' ⟨rfl, rfl⟩
          rw [H4.out]
          go_wp2
          go_ret
          exact ⟨rfl, rfl⟩
end Go.Proofs.Ytdpgkgmnlcepbaa
