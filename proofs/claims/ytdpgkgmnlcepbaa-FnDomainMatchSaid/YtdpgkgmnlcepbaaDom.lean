/- The law laws.FnDomainMatch returns true for every input. -/
import Derived.Test.YtdpgkgmnlcepbaaStr
import Derived.Deep.RegionHeld3
namespace Go.Proofs.Ytdpgkgmnlcepbaa
open Go.RowKit
set_option linter.unusedVariables false

/-- The text s ends with p. -/
def sfx (s p : List UInt8) : Bool := decide (p.length ≤ s.length) && (s.drop (s.length - p.length) == p)
theorem tail_list (s : ByteArray) (k : Nat) : (s.extract k s.size).toList = s.data.toList.drop k := by
  rw [ByteArray.toList_eq, ByteArray.data_extract, Array.toList_extract]
  rw [List.extract_eq_take_drop]
  exact List.take_of_length_le (by simp)
theorem sfx_cut (s p : ByteArray) (h : p.size ≤ s.size) : ((s.extract (s.size - p.size) s.size).toList == p.toList) = sfx s.data.toList p.data.toList := by
  rw [tail_list, ByteArray.toList_eq]; simp [sfx, h]
theorem sfx_no (s p : ByteArray) (h : ¬ p.size ≤ s.size) : sfx s.data.toList p.data.toList = false := by simp [sfx, h]
theorem sfx_dot (s p : List UInt8) (h : p.length < s.length) (c : UInt8) (hc : s[s.length - p.length - 1]? = some c) : sfx s (46 :: p) = (sfx s p && (c.toNat : Int) == 46) := by
  have h1 : s.drop (s.length - p.length - 1) = c :: s.drop (s.length - p.length) := by
    have hlt : s.length - p.length - 1 < s.length := by omega
    rw [List.drop_eq_getElem_cons hlt]
    rw [List.getElem?_eq_getElem hlt] at hc
    injection hc with hc
    rw [hc, show s.length - p.length - 1 + 1 = s.length - p.length by omega]
  have h2 : s.length - (46 :: p).length = s.length - p.length - 1 := by simp; omega
  unfold sfx
  rw [h2, h1]
  have h3 : decide ((46 :: p : List UInt8).length ≤ s.length) = true := by simp; omega
  have h4 : decide (p.length ≤ s.length) = true := by simp; omega
  rw [h3, h4]
  have h5 : (c == 46) = ((c.toNat : Int) == 46) := by
    rw [Bool.eq_iff_iff, beq_iff_eq, beq_iff_eq, ← UInt8.toNat_inj]
    show c.toNat = 46 ↔ _
    omega
  simp only [Bool.true_and]
  rw [← h5]
  show ((c == 46) && _) = _
  rw [Bool.and_comm]; rfl

theorem hasSuffix_lib (s p : ByteArray) (w : World) (hs : s.size ≤ 9223372036854775807) (hp : p.size ≤ 9223372036854775807) : Calls Try.prog 24 #[.string s, .string p] w fun e w' => e = .returned (.bool (sfx s.data.toList p.data.toList)) ∧ w = w' := by
  by_cases h : p.size ≤ s.size
  · have H := Lib.hid (sfx_cut s p h)
    go_enter Try.func24, Try.ntmps24
    go_wp2
    go_ret
    exact ⟨ret_bool H.out, rfl⟩
  · have H := Lib.hid (sfx_no s p h)
    go_enter Try.func24, Try.ntmps24
    go_wp2
    go_ret
    exact ⟨ret_bool H.out.symm, rfl⟩

theorem below_long (s p : List UInt8) (h : ¬ p.length < s.length) : sfx s (46 :: p) = false := by simp [sfx]; omega
theorem isBelow_any (s p : ByteArray) (w : World) (hs : s.size ≤ 9223372036854775807) (hp : p.size ≤ 9223372036854775807) : Calls Try.prog 12 #[.string s, .string p] w fun e w' => e = .returned (.bool (sfx s.data.toList (46 :: p.data.toList))) ∧ w = w' := by
  by_cases h : p.size < s.size
  · have H := Lib.hid (sfx_cut s p (by omega))
    have hlt : s.size - p.size - 1 < s.size := by omega
    have HD := Lib.hid (sfx_dot s.data.toList p.data.toList (by simpa using h) (s[s.size - p.size - 1]'hlt) (by simp; rw [Array.getElem?_eq_getElem (show s.size - p.size - 1 < s.data.size from hlt)]; rfl))
    cases hx : ((s.extract (s.size - p.size) s.size).toList == p.toList)
    · go_enter Try.func12, Try.ntmps12
      go_wp2
      go_ret
      exact ⟨ret_bool (by rw [HD.out, ← H.out]; simp [hx]), rfl⟩
    · go_enter Try.func12, Try.ntmps12
      go_wp2
      go_ret
      exact ⟨ret_bool (by rw [HD.out, ← H.out]; simp [hx]), rfl⟩
  · have H := Lib.hid (below_long s.data.toList p.data.toList (by simpa using h))
    go_enter Try.func12, Try.ntmps12
    go_wp2
    go_ret
    exact ⟨ret_bool H.out.symm, rfl⟩

/-- What (domainMatch).match answers where no address is given. -/
def dmatch (h dp : ByteArray) (m : Bool) (host port : ByteArray) : Bool :=
  (sfx host.data.toList h.data.toList || (m && host.toList == (h.extract 1 h.size).toList)) && (dp.toList.isEmpty || dp.toList == port.toList)

theorem match_any (h dp : ByteArray) (m : Bool) (host port : ByteArray) (w : World) (h0 : 1 ≤ h.size) (h1 : h.size ≤ 9223372036854775807) (h2 : host.size ≤ 9223372036854775807) :
    Calls Try.prog 11 #[.string h, .string dp, .bool m, .string host, .string port] w fun e w' => e = .returned (.bool (dmatch h dp m host port)) ∧ Grown w w' := by
  cases hs : sfx host.data.toList h.data.toList
  · cases m
    · have HR := Lib.hid (show dmatch h dp false host port = false by simp [dmatch, hs])
      go_enter Try.func11, Try.ntmps11
      go_wp2_with (first | (go_at_call 24; refine (hasSuffix_lib _ _ _ (by omega) (by omega)).mono ?_; rintro e w' ⟨rfl, rfl⟩) | go_in)
      go_ret
      exact ⟨ret_bool HR.out.symm, by repeat (first | exact Grown.refl _ | apply Grown.drew | apply Grown.alloc)⟩
    · cases hc : (host.toList == (h.extract 1 h.size).toList)
      · have HR := Lib.hid (show dmatch h dp true host port = false by simp only [dmatch, hs, hc]; rfl)
        go_enter Try.func11, Try.ntmps11
        go_wp2_with (first | (go_at_call 24; refine (hasSuffix_lib _ _ _ (by omega) (by omega)).mono ?_; rintro e w' ⟨rfl, rfl⟩) | go_in)
        go_ret
        exact ⟨ret_bool HR.out.symm, by repeat (first | exact Grown.refl _ | apply Grown.drew | apply Grown.alloc)⟩
      · cases h3 : dp.toList.isEmpty
        · cases h4 : (dp.toList == port.toList)
          · have HR := Lib.hid (show dmatch h dp true host port = false by simp only [dmatch, hs, hc, h3, h4]; rfl)
            go_enter Try.func11, Try.ntmps11
            go_wp2_with (first | (go_at_call 24; refine (hasSuffix_lib _ _ _ (by omega) (by omega)).mono ?_; rintro e w' ⟨rfl, rfl⟩) | go_in)
            go_ret
            exact ⟨ret_bool HR.out.symm, by repeat (first | exact Grown.refl _ | apply Grown.drew | apply Grown.alloc)⟩
          · have HR := Lib.hid (show dmatch h dp true host port = true by simp only [dmatch, hs, hc, h3, h4]; rfl)
            go_enter Try.func11, Try.ntmps11
            go_wp2_with (first | (go_at_call 24; refine (hasSuffix_lib _ _ _ (by omega) (by omega)).mono ?_; rintro e w' ⟨rfl, rfl⟩) | go_in)
            go_ret
            exact ⟨ret_bool HR.out.symm, by repeat (first | exact Grown.refl _ | apply Grown.drew | apply Grown.alloc)⟩
        · have HR := Lib.hid (show dmatch h dp true host port = true by simp only [dmatch, hs, hc, h3]; rfl)
          go_enter Try.func11, Try.ntmps11
          go_wp2_with (first | (go_at_call 24; refine (hasSuffix_lib _ _ _ (by omega) (by omega)).mono ?_; rintro e w' ⟨rfl, rfl⟩) | go_in)
          go_ret
          exact ⟨ret_bool HR.out.symm, by repeat (first | exact Grown.refl _ | apply Grown.drew | apply Grown.alloc)⟩
  · cases h3 : dp.toList.isEmpty
    · cases h4 : (dp.toList == port.toList)
      · have HR := Lib.hid (show dmatch h dp m host port = false by simp only [dmatch, hs, h3, h4]; simp)
        go_enter Try.func11, Try.ntmps11
        go_wp2_with (first | (go_at_call 24; refine (hasSuffix_lib _ _ _ (by omega) (by omega)).mono ?_; rintro e w' ⟨rfl, rfl⟩) | go_in)
        go_ret
        exact ⟨ret_bool HR.out.symm, by repeat (first | exact Grown.refl _ | apply Grown.drew | apply Grown.alloc)⟩
      · have HR := Lib.hid (show dmatch h dp m host port = true by simp only [dmatch, hs, h3, h4]; simp)
        go_enter Try.func11, Try.ntmps11
        go_wp2_with (first | (go_at_call 24; refine (hasSuffix_lib _ _ _ (by omega) (by omega)).mono ?_; rintro e w' ⟨rfl, rfl⟩) | go_in)
        go_ret
        exact ⟨ret_bool HR.out.symm, by repeat (first | exact Grown.refl _ | apply Grown.drew | apply Grown.alloc)⟩
    · have HR := Lib.hid (show dmatch h dp m host port = true by simp only [dmatch, hs, h3]; simp)
      go_enter Try.func11, Try.ntmps11
      go_wp2_with (first | (go_at_call 24; refine (hasSuffix_lib _ _ _ (by omega) (by omega)).mono ?_; rintro e w' ⟨rfl, rfl⟩) | go_in)
      go_ret
      exact ⟨ret_bool HR.out.symm, by repeat (first | exact Grown.refl _ | apply Grown.drew | apply Grown.alloc)⟩
end Go.Proofs.Ytdpgkgmnlcepbaa
