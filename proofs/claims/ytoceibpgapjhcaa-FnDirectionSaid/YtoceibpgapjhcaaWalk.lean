/- The walks of the functions that 'laws.FnDirection' reaches: what spec.isBack, spec.IsLabel, spec.IsBack, bidirule.Direction, impl.IsRightToLeft return. Conditions: the label is a slice of bytes of at most 140737488351232 bytes. -/
import Derived.Test.YtoceibpgapjhcaaRows
import Derived.Test.YtoceibpgapjhcaaBase
import Derived.Outline
import Derived.BigQuiet
import Derived.Deep.QuietTactic
namespace Go.Proofs.Ytoceibpgapjhcaa
open Go.RowKit
set_option linter.unusedVariables false

def bk (c : Int) : Bool := c == 1 || c == 13 || c == 5
def lab1 (c : Int) : Bool := decide (c < 23)
def isLab (l : List Int) : Bool := l.all lab1
def isBk (l : List Int) : Bool := l.any bk

theorem all_next (f : Int → Bool) {L : List Int} {k : Nat} {c : Int} (h : k < L.length) (hc : c = L[k]?.getD 0) (ha : (L.take k).all f = true) (hf : f c = true) : (L.take (k + 1)).all f = true := by
  rw [take_snoc L k h, List.all_append, ha, ← hc]; simp [hf]
theorem all_false (f : Int → Bool) {L : List Int} {k : Nat} {c : Int} (h : k < L.length) (hc : c = L[k]?.getD 0) (hf : f c = false) : L.all f = false := by
  rw [split_at L k h, List.all_append, ← hc]; simp [hf]
theorem any_next (f : Int → Bool) {L : List Int} {k : Nat} {c : Int} (h : k < L.length) (hc : c = L[k]?.getD 0) (ha : (L.take k).any f = false) (hf : f c = false) : (L.take (k + 1)).any f = false := by
  rw [take_snoc L k h, List.any_append, ha, ← hc]; simp [hf]
theorem any_true (f : Int → Bool) {L : List Int} {k : Nat} {c : Int} (h : k < L.length) (hc : c = L[k]?.getD 0) (hf : f c = true) : L.any f = true := by
  rw [split_at L k h, List.any_append, ← hc]; simp [hf]

theorem bk_no {c : Int} (h : bk c = false) : (c == 1) = false ∧ (c == 13) = false ∧ (c == 5) = false := by simpa [bk, and_assoc] using h
theorem bk_yes {c : Int} (h : bk c = true) : c = 1 ∨ c = 13 ∨ c = 5 := by simpa [bk, or_assoc] using h

theorem isBack_any (c : Int) (w : World) :
    Calls Try.prog 8 #[.int .u8 c] w fun e w' => e = .returned (.bool (bk c)) ∧ w = w' := by
  go_enter Try.func8, Try.ntmps8
  go_wp2
  all_goals (go_ret; refine ⟨ret_bool ?_, rfl⟩; simp [bk, *])

theorem isLabel_any (v : Value) (L : List Int) (w : World) (h : Lab w v L) (hn : L.length ≤ 140737488351232) :
    Calls Try.prog 5 #[v] w fun e w' => e = .returned (.bool (isLab L)) ∧ w = w' := by
  obtain ⟨hb, ⟨a, cap, rfl, rfl, _⟩ | ⟨b, off, cap, rfl, h0, hc⟩⟩ := h
  · go_enter Try.func5, Try.ntmps5
    go_wp2
    refine wp_loop_rounds 1 ?_; rw [rounds_succ]
    go_wp2
    go_ret
    exact ⟨rfl, rfl⟩
  · obtain ⟨n, hnn⟩ : ∃ n, n = L.length := ⟨_, rfl⟩
    rw [← hnn] at hc h0 hn ⊢
    have HL := Lib.hid hnn; clear hnn
    have HK := Lib.hid hc; clear hc
    have HB := Lib.hid hb; clear hb
    go_enter Try.func5, Try.ntmps5
    go_wp2
    go_loop [4, 7] (fun _ i => ∃ k : Nat, k ≤ n ∧ i = .int .i64 k ∧ (L.take k).all lab1 = true) (fun _ i => n - (intOf i).toNat)
    case atStart => exact ⟨0, Nat.zero_le _, rfl, rfl⟩
    case round =>
      obtain ⟨k, hk, rfl, hall⟩ := hrel
      have HA := Lib.hid hall; clear hall
      by_cases hlt : k < n
      · have hcell := HK.out k hlt
        obtain ⟨c, hcd⟩ : ∃ c, c = L[k]?.getD 0 := ⟨_, rfl⟩
        rw [← hcd] at hcell
        have HC := Lib.hid hcd; clear hcd
        by_cases h23 : c < 23
        · go_wp2
          go_round
          case rel => exact ⟨k + 1, by omega, by go_num, all_next lab1 (by have := HL.out; omega) HC.out HA.out (by simp [lab1, h23])⟩
          case measure => simp [intOf]; omega
        · go_wp2
          go_ret
          exact ⟨ret_bool (all_false lab1 (by have := HL.out; omega) HC.out (by simp [lab1]; omega)).symm, rfl⟩
      · go_wp2
        go_ret
        refine ⟨ret_bool ?_, rfl⟩
        have := HA.out
        rw [List.take_of_length_le (by have := HL.out; omega)] at this
        exact this.symm

theorem isBackAll_any (v : Value) (L : List Int) (w : World) (h : Lab w v L) (hn : L.length ≤ 140737488351232) :
    Calls Try.prog 6 #[v] w fun e w' => e = .returned (.bool (isBk L)) ∧ w = w' := by
  obtain ⟨hb, ⟨a, cap, rfl, rfl, _⟩ | ⟨b, off, cap, rfl, h0, hc⟩⟩ := h
  · go_enter Try.func6, Try.ntmps6
    go_wp2
    refine wp_loop_rounds 1 ?_; rw [rounds_succ]
    go_wp2
    go_ret
    exact ⟨rfl, rfl⟩
  · obtain ⟨n, hnn⟩ : ∃ n, n = L.length := ⟨_, rfl⟩
    rw [← hnn] at hc h0 hn ⊢
    have HL := Lib.hid hnn; clear hnn
    have HK := Lib.hid hc; clear hc
    have HB := Lib.hid hb; clear hb
    go_enter Try.func6, Try.ntmps6
    go_wp2
    go_loop [4, 7] (fun _ i => ∃ k : Nat, k ≤ n ∧ i = .int .i64 k ∧ (L.take k).any bk = false) (fun _ i => n - (intOf i).toNat)
    case atStart => exact ⟨0, Nat.zero_le _, rfl, rfl⟩
    case round =>
      obtain ⟨k, hk, rfl, hall⟩ := hrel
      have HA := Lib.hid hall; clear hall
      by_cases hlt : k < n
      · have hcell := HK.out k hlt
        obtain ⟨c, hcd⟩ : ∃ c, c = L[k]?.getD 0 := ⟨_, rfl⟩
        rw [← hcd] at hcell
        have HC := Lib.hid hcd; clear hcd
        cases hbk : bk c
        · go_wp2_with (go_at_call 8; refine (isBack_any _ _).mono ?_; rintro e w' ⟨rfl, rfl⟩)
          go_round
          case rel => exact ⟨k + 1, by omega, by go_num, any_next bk (by have := HL.out; omega) HC.out HA.out hbk⟩
          case measure => simp [intOf]; omega
        · go_wp2_with (go_at_call 8; refine (isBack_any _ _).mono ?_; rintro e w' ⟨rfl, rfl⟩)
          go_ret
          exact ⟨ret_bool (any_true bk (by have := HL.out; omega) HC.out hbk).symm, rfl⟩
      · go_wp2
        go_ret
        refine ⟨ret_bool ?_, rfl⟩
        have := HA.out
        rw [List.take_of_length_le (by have := HL.out; omega)] at this
        exact this.symm

def dirOf (b : Bool) : Int := if b then 1 else 0

theorem direction_any (v : Value) (L : List Int) (w : World) (h : Lab w v L) (hn : L.length ≤ 140737488351232) :
    Calls Try.prog 7 #[v] w fun e w' => e = .returned (.int .i64 (dirOf (isBk L))) ∧ w = w' := by
  obtain ⟨hb, ⟨a, cap, rfl, rfl, _⟩ | ⟨b, off, cap, rfl, h0, hc⟩⟩ := h
  · go_enter Try.func7, Try.ntmps7
    go_wp2
    refine wp_loop_rounds 1 ?_; rw [rounds_succ]
    go_wp2
    go_ret
    exact ⟨rfl, rfl⟩
  · obtain ⟨n, hnn⟩ : ∃ n, n = L.length := ⟨_, rfl⟩
    rw [← hnn] at hc h0 hn ⊢
    have HL := Lib.hid hnn; clear hnn
    have HK := Lib.hid hc; clear hc
    go_enter Try.func7, Try.ntmps7
    go_wp2
    go_loop [3, 4] (fun i _ => ∃ k : Nat, k ≤ n ∧ i = .int .i64 k ∧ (L.take k).any bk = false) (fun i _ => n - (intOf i).toNat)
    case atStart => exact ⟨0, Nat.zero_le _, rfl, rfl⟩
    case round =>
      obtain ⟨k, hk, rfl, hall⟩ := hrel
      have HA := Lib.hid hall; clear hall
      by_cases hlt : k < n
      · have hcell := HK.out k hlt
        have hbd := hb.at (k := k) (by have := HL.out; omega)
        obtain ⟨c, hcd⟩ : ∃ c, c = L[k]?.getD 0 := ⟨_, rfl⟩
        rw [← hcd] at hcell hbd
        have HC := Lib.hid hcd; clear hcd
        obtain ⟨hc0, hc1⟩ := hbd
        have hw64 : IntKind.u64.wrap c = c := by rw [IntKind.wrap_u64]; omega
        cases hbk : bk c
        · obtain ⟨e1, e2, e3⟩ := bk_no hbk
          go_wp2
          go_round
          case rel => exact ⟨k + 1, by omega, by go_num, any_next bk (by have := HL.out; omega) HC.out HA.out hbk⟩
          case measure => simp [intOf]; omega
        · have HR := Lib.hid (any_true bk (by have := HL.out; omega) HC.out hbk)
          have HB := Lib.hid hbk; clear hbk
          rcases bk_yes HB.out with rfl | rfl | rfl
          all_goals
            go_wp2
            go_ret
            refine ⟨?_, rfl⟩
            rw [show isBk L = true from HR.out]; rfl
      · go_wp2
        go_ret
        refine ⟨?_, rfl⟩
        have := HA.out
        rw [List.take_of_length_le (by have := HL.out; omega)] at this
        simp [dirOf, isBk, this]

theorem info5 : (Try.prog.info? 5).map (fun i => (i.zero, i.size, i.bytes)) = some (some (.int .u8 0), 1, 1) := by kernel_rfl

theorem isRightToLeft_any (a : Option Addr) (n cap : Nat) (L : List Int) (w : World) (h : Lab w (.slice a n cap) L) (hn : n ≤ 140737488351232) :
    Calls Try.prog 4 #[.slice a n cap] w fun e w' => e = .returned (.bool (isBk L)) ∧ Below w.heap.size w w' := by
  obtain ⟨i0, hi, hz0, hz1, hz2⟩ := info_parts info5
  have HH := Lib.hid (h.below ((Below.refl w.heap.size w).alloc (Nat.le_refl _) (.cells #[] 5)))
  have HL := Lib.hid h.len
  clear h
  go_enter Try.func4, Try.ntmps4
  go_wp2_with (at_builtin; refine wpList_append_lab rfl (.tmp 3) (.tmp 4) 22 rfl 5 i0 Try.underlying22 hi hz0 hz1 hz2 w.heap.size 0 0 [] rfl (own_empty w) a n cap L rfl HH.out n (Nat.zero_add n) (by omega) ?_)
  intro g' cap' w' hg hown hgr
  have HB := Lib.hid (((Below.refl w.heap.size w).alloc (Nat.le_refl _) (.cells #[] 5)).trans (below_grown hgr (Nat.le_refl _) (by simp)))
  have HO := Lib.hid hown; clear hown hgr hg
  go_wp2_with (go_at_call 7; refine (direction_any _ L _ HO.out.lab (by have := HL.out; omega)).mono ?_; rintro e w' ⟨rfl, rfl⟩)
  go_ret
  exact ⟨ret_bool (by cases isBk L <;> rfl), HB.out⟩
end Go.Proofs.Ytoceibpgapjhcaa
