/- laws.FnCanonical returns true. -/
import Derived.Test.YtdpgkgmnlcepbaaDoorAddr
namespace Go.Proofs.YtdpgkgmnlcepbaaDoor
open Go.RowKit
set_option linter.unusedVariables false

theorem name_a : Name ⟨#[97]⟩ := ⟨by decide, by decide, by decide⟩
theorem canon_a {w : World} {bm : Nat} (hd : Door w bm) : Canon w ⟨#[104, 116, 116, 112]⟩ ⟨#[97]⟩ ⟨#[97, 58, 56, 48]⟩ := by
  have h := canon_at 0 (by decide) name_a hd
  have e : (⟨#[97]⟩ ++ ⟨#[58]⟩ ++ prt 0 : ByteArray) = ⟨#[97, 58, 56, 48]⟩ := bytes_eq (by rw [lists]; rfl)
  rw [e] at h
  exact h

theorem canon_at0 {n : ByteArray} {w : World} {bm : Nat} (hn : Name n) (hd : Door w bm) : Canon w ⟨#[104, 116, 116, 112]⟩ n (n ++ ⟨#[58]⟩ ++ ⟨#[56, 48]⟩) := canon_at 0 (by decide) hn hd
theorem portOf0 (w : World) : Calls Tryd.prog 8 #[.string ⟨#[104, 116, 116, 112]⟩] w fun e w' => e = .returned (.string ⟨#[56, 48]⟩) ∧ w = w' := portOf_any 0 w (by decide)
theorem canon_at1 {n : ByteArray} {w : World} {bm : Nat} (hn : Name n) (hd : Door w bm) : Canon w ⟨#[104, 116, 116, 112, 115]⟩ n (n ++ ⟨#[58]⟩ ++ ⟨#[52, 52, 51]⟩) := canon_at 1 (by decide) hn hd
theorem portOf1 (w : World) : Calls Tryd.prog 8 #[.string ⟨#[104, 116, 116, 112, 115]⟩] w fun e w' => e = .returned (.string ⟨#[52, 52, 51]⟩) ∧ w = w' := portOf_any 1 w (by decide)
theorem canon_at2 {n : ByteArray} {w : World} {bm : Nat} (hn : Name n) (hd : Door w bm) : Canon w ⟨#[115, 111, 99, 107, 115, 53]⟩ n (n ++ ⟨#[58]⟩ ++ ⟨#[49, 48, 56, 48]⟩) := canon_at 2 (by decide) hn hd
theorem portOf2 (w : World) : Calls Tryd.prog 8 #[.string ⟨#[115, 111, 99, 107, 115, 53]⟩] w fun e w' => e = .returned (.string ⟨#[49, 48, 56, 48]⟩) ∧ w = w' := portOf_any 2 w (by decide)
set_option maxRecDepth 100000 in
set_option maxHeartbeats 2000000 in
theorem fnCanonical_any (i : Int) (n p : ByteArray) (bm : Nat) (w : World) (hn : n.size ≤ 9223372036854775807) (hp : p.size ≤ 9223372036854775807) (hd : Door w bm) :
    Calls Tryd.prog 3 #[.int .i64 i, .string n, .string p] w fun e w' => e = .returned (.bool true) ∧ Below w.heap.size w w' := by
  have HD := Lib.hid hd; clear hd
  have HA : Hid (∀ o, Below w.heap.size w (w.alloc o)) := Lib.hid (fun o => (Below.refl _ _).alloc (Nat.le_refl _) o)
  go_enter Tryd.func3, Tryd.ntmps3
  by_cases h1 : n.size ≤ 2147483647
  · by_cases h2 : p.size ≤ 2147483647
    · go_wp2_with (first
        | (go_at_call 4; refine (isName_any n _ hn).mono ?_; rintro e w' ⟨b, rfl, hb, rfl⟩; have HN := Lib.hid hb; clear hb; cases b)
        | (go_at_call 5; refine (isPort_any p _ hp).mono ?_; rintro e w' ⟨b, rfl, hb, rfl⟩; have HP := Lib.hid hb; clear hb; cases b)
        | (go_at_call 6; with_reducible refine (addr_any _ _ _ _ (canon_a HD.out)).mono ?_; rintro e w' ⟨rfl, hb⟩; have HB2 := Lib.hid hb; clear hb)
        | (go_at_call 7; refine (mod_any i _).mono ?_; rintro e w' ⟨r, hr, rfl, rfl⟩; obtain rfl | rfl | rfl : r = 0 ∨ r = 1 ∨ r = 2 := by omega)
        | (go_at_call 6; with_reducible refine (addr_any _ _ _ _ (canon_of_port _ _ (HN.out (by trivial)) (HP.out (by trivial)))).mono ?_; rintro e w1 ⟨rfl, hb⟩; have HB1 := Lib.hid ((HA.out _).trans (hb.mono (HA.out _).size)); clear hb)
        | (go_at_call 6; with_reducible refine (addr_any ⟨#[104, 116, 116, 112]⟩ n _ _ (canon_at0 (HN.out (by trivial)) (HD.out.below HB1.out))).mono ?_; rintro e w2 ⟨rfl, hb⟩; have HB2 := Lib.hid (HB1.out.trans (hb.mono HB1.out.size)); clear hb)
        | (go_at_call 8; with_reducible refine (portOf0 _).mono ?_; rintro e w' ⟨rfl, rfl⟩)
        | (go_at_call 6; with_reducible refine (addr_any ⟨#[104, 116, 116, 112, 115]⟩ n _ _ (canon_at1 (HN.out (by trivial)) (HD.out.below HB1.out))).mono ?_; rintro e w2 ⟨rfl, hb⟩; have HB2 := Lib.hid (HB1.out.trans (hb.mono HB1.out.size)); clear hb)
        | (go_at_call 8; with_reducible refine (portOf1 _).mono ?_; rintro e w' ⟨rfl, rfl⟩)
        | (go_at_call 6; with_reducible refine (addr_any ⟨#[115, 111, 99, 107, 115, 53]⟩ n _ _ (canon_at2 (HN.out (by trivial)) (HD.out.below HB1.out))).mono ?_; rintro e w2 ⟨rfl, hb⟩; have HB2 := Lib.hid (HB1.out.trans (hb.mono HB1.out.size)); clear hb)
        | (go_at_call 8; with_reducible refine (portOf2 _).mono ?_; rintro e w' ⟨rfl, rfl⟩))
      · go_ret
        exact ⟨rfl, HB2.out⟩
      · go_ret
        exact ⟨rfl, HB2.out⟩
      all_goals
        go_ret
        exact ⟨rfl, HB2.out⟩
    · go_wp2
      go_ret
      exact ⟨rfl, Below.refl _ _⟩
  · go_wp2
    go_ret
    exact ⟨rfl, Below.refl _ _⟩
end Go.Proofs.YtdpgkgmnlcepbaaDoor
