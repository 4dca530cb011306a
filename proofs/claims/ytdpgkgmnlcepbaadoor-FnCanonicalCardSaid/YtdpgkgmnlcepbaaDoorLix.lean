/- What strings.LastIndexByte returns, and plain facts on it. Condition: the text has at most 4611686018427387904 bytes. -/
import Derived.Test.YtdpgkgmnlcepbaaDoorStr
namespace Go.Proofs.YtdpgkgmnlcepbaaDoor
open Go.RowKit
set_option linter.unusedVariables false

/-- The place of the last byte c in a text that is given from its end; -1 if there is none. -/
def lastR : List UInt8 → Int → Int
  | [], _ => -1
  | b :: r, c => if (b.toNat : Int) = c then r.length else lastR r c
def lastI (l : List UInt8) (c : Int) : Int := lastR l.reverse c

theorem lastR_lt (l : List UInt8) (c : Int) : -1 ≤ lastR l c ∧ lastR l c < l.length := by
  induction l with
  | nil => simp [lastR]
  | cons b r ih => unfold lastR; split <;> simp <;> omega
theorem lastI_lt (l : List UInt8) (c : Int) : -1 ≤ lastI l c ∧ lastI l c < l.length := by have := lastR_lt l.reverse c; simpa [lastI] using this
theorem lastI_snoc (l : List UInt8) (b : UInt8) (c : Int) : lastI (l ++ [b]) c = if (b.toNat : Int) = c then (l.length : Int) else lastI l c := by
  simp [lastI, lastR]
theorem lastR_none (r : List UInt8) (l : List UInt8) (c : Int) (h : ∀ b ∈ r, (b.toNat : Int) ≠ c) : lastR (r ++ l) c = lastR l c := by
  induction r with
  | nil => rfl
  | cons b r ih =>
    show (if (b.toNat : Int) = c then _ else lastR (r ++ l) c) = _
    rw [if_neg (h b (by simp)), ih (fun x hx => h x (by simp [hx]))]
theorem lastI_none (l r : List UInt8) (c : Int) (h : ∀ b ∈ r, (b.toNat : Int) ≠ c) : lastI (l ++ r) c = lastI l c := by
  unfold lastI; rw [List.reverse_append]; exact lastR_none _ _ _ (fun b hb => h b (by simpa using hb))
theorem lastI_all (r : List UInt8) (c : Int) (h : ∀ b ∈ r, (b.toNat : Int) ≠ c) : lastI r c = -1 := by have := lastI_none [] r c h; simpa [lastI, lastR] using this

theorem lastIndex_lib (s : ByteArray) (c : Int) (w : World) (hs : s.size ≤ 4611686018427387904) : Calls Tryd.prog 26 #[.string s, .int .u8 c] w fun e w' => e = .returned (.int .i64 (lastI s.data.toList c)) ∧ w = w' := by
  go_enter Tryd.func26, Tryd.ntmps26
  rcases Nat.eq_zero_or_pos s.size with h0 | h0
  · have H0 := Lib.hid h0
    have hl : s.data.toList = [] := List.eq_nil_of_length_eq_zero (by simpa using h0)
    have HL := Lib.hid hl; clear hl
    go_wp2
    refine wp_loop_rounds 1 ?_; rw [rounds_succ]
    go_wp2
    go_ret
    refine ⟨ret_int ?_, rfl⟩
    rw [HL.out]; rfl
  · go_wp2
    go_loop [5] (fun i => (∃ k : Nat, k < s.size ∧ i = .int .i64 k ∧ lastI s.data.toList c = lastI (s.data.toList.take (k + 1)) c) ∨ (i = .int .i64 (-1) ∧ lastI s.data.toList c = -1)) (fun i => (intOf i + 1).toNat)
    case atStart =>
      refine .inl ⟨s.size - 1, by omega, ?_, ?_⟩
      · first | rfl | go_num | (congr 1; omega)
      · rw [take_all s (k := s.size - 1 + 1) (by omega)]
    case round =>
      rcases hrel with ⟨k, hk, rfl, hl⟩ | ⟨rfl, hl⟩
      · have hn := lastI_snoc (s.data.toList.take k) s[k] c
        rw [← take_snoc s k hk, ← hl] at hn
        have hlen : (s.data.toList.take k).length = k := by simp; omega
        rw [hlen] at hn
        have HN := Lib.hid hn; clear hn hl hlen
        cases he : ((s[k].toNat : Int) == c)
        · go_wp2
          go_round
          case rel =>
            have := HN.out
            rw [if_neg (by simpa using he)] at this
            rcases k with _ | j
            · exact .inr ⟨by go_num, this⟩
            · exact .inl ⟨j, by omega, by go_num, this⟩
          case measure => simp [intOf]
        · go_wp2
          go_ret
          refine ⟨ret_int ?_, rfl⟩
          have := HN.out
          rw [if_pos (by simpa using he)] at this
          exact this.symm
      · have HL := Lib.hid hl; clear hl
        go_wp2
        go_ret
        exact ⟨ret_int HL.out.symm, rfl⟩
end Go.Proofs.YtdpgkgmnlcepbaaDoor
