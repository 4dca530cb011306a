/- What neturl.splitHostPort, URL.Hostname's and URL.Port's road, returns at a name, and at a name with a port behind it. -/
import Derived.Test.YtdpgkgmnlcepbaaDoorUrl
namespace Go.Proofs.YtdpgkgmnlcepbaaDoor
open Go.RowKit
set_option linter.unusedVariables false

theorem eq_no {a b : ByteArray} (h : a.data.toList ≠ b.data.toList) : (a.toList == b.toList) = false := by
  rw [ByteArray.toList_eq, ByteArray.toList_eq]; simpa using h
theorem eq_yes {a b : ByteArray} (h : a = b) : (a.toList == b.toList) = true := by subst h; simp
theorem extract_list (s : ByteArray) (i j : Nat) : (s.extract i j).data.toList = (s.data.toList.take j).drop i := by
  simp [ByteArray.data_extract, Array.toList_extract, List.extract_eq_take_drop, List.drop_take]

/-- A name does not begin with a bracket. -/
theorem hasPrefix_any (s : ByteArray) (w : World) (hs : s.size ≤ 4611686018427387904) (h1 : 1 ≤ s.size) (hd : Each nm s.data.toList = true) :
    Calls Tryd.prog 23 #[.string s, .string ⟨#[91]⟩] w fun e w' => e = .returned (.bool false) ∧ w = w' := by
  have hno : ((s.extract 0 1).toList == [91]) = false := by
    have e0 : (⟨#[91]⟩ : ByteArray).toList = [91] := by rw [ByteArray.toList_eq]
    rw [← e0]
    refine eq_no ?_
    rw [extract_list]
    have h0 := each_at nm hd (k := 0) (by omega)
    have h2 := split_at s 0 (by omega)
    simp only [List.take_zero, List.nil_append] at h2
    rw [h2]
    intro hc
    simp at hc
    rw [hc] at h0
    exact absurd h0 (by decide)
  clear hd
  have lib : ∀ w, Calls Tryd.prog 27 #[.string s, .string ⟨#[91]⟩] w fun e w' => e = .returned (.bool false) ∧ w = w' := by
    intro w
    go_enter Tryd.func27, Tryd.ntmps27
    go_wp2
    go_ret
    exact ⟨rfl, rfl⟩
  go_enter Tryd.func23, Tryd.ntmps23
  go_wp2_with (go_at_call 27; refine (lib _).mono ?_; rintro e w' ⟨rfl, rfl⟩)
  go_ret
  exact ⟨rfl, rfl⟩
/-- strings.LastIndexByte. -/
theorem lastIndex_any (s : ByteArray) (c : Int) (w : World) (hs : s.size ≤ 4611686018427387904) : Calls Tryd.prog 21 #[.string s, .int .u8 c] w fun e w' => e = .returned (.int .i64 (lastI s.data.toList c)) ∧ w = w' := by
  go_enter Tryd.func21, Tryd.ntmps21
  go_wp2_with (go_at_call 26; refine (lastIndex_lib s c _ hs).mono ?_; rintro e w' ⟨rfl, rfl⟩)
  go_ret
  exact ⟨rfl, rfl⟩

/-- Without a colon: the whole text, and no port. -/
theorem split_none (s : ByteArray) (w : World) (hs : s.size ≤ 4611686018427387904) (h1 : 1 ≤ s.size) (hd : Each nm s.data.toList = true) (hl : lastI s.data.toList 58 = -1) :
    Calls Tryd.prog 17 #[.string s] w fun e w' => e = .returned (.tuple #[.string s, .string ⟨#[]⟩]) ∧ Below w.heap.size w w' := by
  have HD := Lib.hid hd; clear hd
  have HL := Lib.hid hl; clear hl
  go_enter Tryd.func17, Tryd.ntmps17
  go_wp2_with (first | (go_at_call 21; refine (lastIndex_any s 58 _ hs).mono ?_; rw [HL.out]; rintro e w' ⟨rfl, rfl⟩) | (go_at_call 23; refine (hasPrefix_any s _ hs h1 HD.out).mono ?_; rintro e w' ⟨rfl, rfl⟩))
  refine bodyPost_ret (v := .tuple #[.string s, .string ⟨#[]⟩]) (by simp [results, Tryd.results17, go_sem]) rfl ⟨rfl, Below.refl _ _⟩

/-- With one: what lies ahead of it, and what lies behind. -/
theorem split_at_colon (s n p v : ByteArray) (c : Nat) (w : World) (hs : s.size ≤ 4611686018427387904) (hc : c < s.size) (hl : lastI s.data.toList 58 = c)
    (hv : s.extract c s.size = v) (hn : s.extract 0 c = n) (hp : s.extract (c + 1) s.size = p)
    (hn1 : 1 ≤ n.size) (hns : n.size ≤ 4611686018427387904) (hnd : Each nm n.data.toList = true)
    (hvs : v.size ≤ 4611686018427387904) (hv1 : 1 ≤ v.size) (h58 : ((v[0].toNat : Int) == 58) = true) (hvd : Each dgB (v.extract 1 v.size).data.toList = true) :
    Calls Tryd.prog 17 #[.string s] w fun e w' => e = .returned (.tuple #[.string n, .string p]) ∧ Below w.heap.size w w' := by
  have HND := Lib.hid hnd; clear hnd
  have HVD := Lib.hid hvd; clear hvd
  have HL := Lib.hid hl; clear hl
  have hm : ((c : Int) != -1) = true := by simp
  go_enter Tryd.func17, Tryd.ntmps17
  go_wp2_with (first | (go_at_call 21; refine (lastIndex_any s 58 _ hs).mono ?_; rw [HL.out]; rintro e w' ⟨rfl, rfl⟩) | (go_at_call 22; refine (validOptionalPort_any v _ hvs hv1 h58 HVD.out).mono ?_; rintro e w1 ⟨rfl, hb⟩; have HB := Lib.hid hb; clear hb))
  go_quiet (fail)
  go_wp2_with (first | (go_at_call 23; refine (hasPrefix_any n _ hns hn1 HND.out).mono ?_; rintro e w' ⟨rfl, rfl⟩))
  refine bodyPost_ret (v := .tuple #[.string n, .string p]) (by simp [results, Tryd.results17, go_sem]) rfl ⟨rfl, below_drewN HB.out _⟩
end Go.Proofs.YtdpgkgmnlcepbaaDoor
