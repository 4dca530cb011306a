/- What spec.Conforms, StateOf and Bits return. Condition: the label is a slice of bytes of at most 140737488351232 bytes; for Bits, of classes less than 23. -/
import Derived.Test.YtoceibpgapjhcaaDoorSpec
import Derived.Laws.BitsAllLaws
namespace Go.Proofs.YtoceibpgapjhcaaDoor
open Go.RowKit
set_option linter.unusedVariables false

theorem holds_any (a : Option Addr) (n cap : Nat) (L : List Int) (w : World) (h : Lab w (.slice a n cap) L) (h0 : 0 < n) (hn : n ≤ 140737488351232) : Calls Tryd.prog 34 #[.slice a n cap] w (HoldPost L w) := by
  rcases h.2 with ⟨a', cap', hv, hL, _⟩ | ⟨b, off, cap', hv, h1, hc⟩
  · injection hv with h1 h2 h3; omega
  · injection hv with h2 h3 h4
    subst h2
    exact holds_some b off n cap L w h h0 hn

theorem conf_cons {L : List Int} {n : Nat} (h : L.length = n) (h0 : 0 < n) : conf L = fin L := by cases L with | nil => simp at h; omega | cons a t => rfl
theorem conforms_any (a : Option Addr) (n cap : Nat) (L : List Int) (w : World) (h : Lab w (.slice a n cap) L) (hn : n ≤ 140737488351232) :
    Calls Tryd.prog 24 #[.slice a n cap] w fun e w' => e = .returned (.bool (conf L)) ∧ Below w.heap.size w w' := by
  have HH := Lib.hid h
  have HL := Lib.hid h.len
  clear h
  by_cases h0 : 0 < n
  · have hne : ((n : Int) == 0) = false := by simp; omega
    have HC := Lib.hid (conf_cons HL.out h0)
    go_enter Tryd.func24, Tryd.ntmps24
    go_wp2_with fail
    refine (holds_any _ _ _ L _ HH.out h0 hn).mono ?_
    rintro e w1 ⟨rfl, hb⟩
    have HB := Lib.hid hb; clear hb
    go_wp2
    go_ret
    exact ⟨ret_bool HC.out.symm, HB.out⟩
  · obtain rfl : n = 0 := by omega
    have HC := Lib.hid (show conf L = true by have := List.eq_nil_of_length_eq_zero HL.out; rw [this]; rfl)
    go_enter Tryd.func24, Tryd.ntmps24
    go_wp2
    go_ret
    exact ⟨ret_bool HC.out.symm, Below.refl _ _⟩

theorem state_hold {L : List Int} {n : Nat} (h : L.length = n) (h0 : 0 < n) : stateOf L = if hold L then code (bg1 L) (fin L) else 5 := by cases L with | nil => simp at h; omega | cons a t => rfl
theorem ret_int {k : IntKind} {a b : Int} (h : a = b) : Ending.returned (.int k a) = .returned (.int k b) := by rw [h]
theorem stateOf_any (a : Option Addr) (n cap : Nat) (L : List Int) (w : World) (h : Lab w (.slice a n cap) L) (hn : n ≤ 140737488351232) :
    Calls Tryd.prog 18 #[.slice a n cap] w fun e w' => e = .returned (.int .i64 (stateOf L)) ∧ Below w.heap.size w w' := by
  have HH := Lib.hid h
  have HL := Lib.hid h.len
  clear h
  by_cases h0 : 0 < n
  · have hne : ((n : Int) == 0) = false := by simp; omega
    have HC := Lib.hid (state_hold HL.out h0)
    go_enter Tryd.func18, Tryd.ntmps18
    go_wp2_with fail
    refine (holds_any _ _ _ L _ HH.out h0 hn).mono ?_
    rintro e w1 ⟨rfl, hb⟩
    have HB := Lib.hid hb; clear hb
    go_wp2_with fail
    refine (begins_any _ _ _ L _ (HH.out.below HB.out) h0).mono ?_
    rintro e w2 ⟨rfl, hb⟩
    have HB2 := Lib.hid (HB.out.trans (hb.mono HB.out.size)); clear hb
    cases e1 : hold L
    · go_wp2
      go_ret
      exact ⟨ret_int (by rw [HC.out, e1]; rfl), HB2.out⟩
    · cases e2 : bg1 L
      · cases e3 : fin L
        all_goals
          go_wp2
          go_ret
          exact ⟨ret_int (by rw [HC.out, e1, e2, e3]; rfl), HB2.out⟩
      · cases e3 : fin L
        all_goals
          go_wp2
          go_ret
          exact ⟨ret_int (by rw [HC.out, e1, e2, e3]; rfl), HB2.out⟩
  · obtain rfl : n = 0 := by omega
    have HC := Lib.hid (show stateOf L = 0 by have := List.eq_nil_of_length_eq_zero HL.out; rw [this]; rfl)
    go_enter Tryd.func18, Tryd.ntmps18
    go_wp2
    go_ret
    exact ⟨ret_int (by rw [HC.out]; rfl), Below.refl _ _⟩

/-- The bits as spec.Bits reckons them, for classes less than 23. -/
def bitsN (l : List Int) : Nat := l.foldl (fun a c => a ||| 2 ^ c.toNat) 0
theorem bitsN_snoc (l : List Int) (c : Int) : bitsN (l ++ [c]) = bitsN l ||| 2 ^ c.toNat := by simp [bitsN]
theorem bitsN_lt (l : List Int) (h : isLab l = true) : bitsN l < 8388608 := by
  unfold bitsN
  have gen : ∀ (l : List Int) (a : Nat), l.all lab1 = true → a < 8388608 → l.foldl (fun a c => a ||| 2 ^ c.toNat) a < 8388608 := by
    intro l
    induction l with
    | nil => intro a _ ha; exact ha
    | cons c t ih =>
      intro a hl ha
      rw [List.all_cons, Bool.and_eq_true] at hl
      refine ih _ hl.2 ?_
      have hc : c < 23 := by have := hl.1; simpa [lab1] using this
      exact Nat.or_lt_two_pow (n := 23) ha (Nat.pow_lt_pow_of_lt (a := 2) (n := c.toNat) (m := 23) (by decide) (by omega))
  exact gen l 0 h (by decide)
theorem i64_wrap_nat (x : Nat) (h : x < 4611686018427387904) : IntKind.i64.wrap (x : Int) = x := IntWalk.i64_in _ ⟨by omega, by omega⟩
theorem ofInt_i64 (a : Nat) (ha : a < 4611686018427387904) : (BitVec.ofInt 64 (a : Int)).toNat = a := by
  rw [BitVec.ofInt_natCast, BitVec.toNat_ofNat]; exact Nat.mod_eq_of_lt (by omega)
theorem i64_or_nat (a b : Nat) (ha : a < 4611686018427387904) (hb : b < 4611686018427387904) : Go.bits .or .i64 (a : Int) (b : Int) = ((a ||| b : Nat) : Int) := by
  show IntKind.i64.wrap ((BitVec.ofInt 64 (a : Int) ||| BitVec.ofInt 64 (b : Int)).toNat : Int) = _
  rw [BitVec.toNat_or, ofInt_i64 a ha, ofInt_i64 b hb]
  exact i64_wrap_nat _ (Nat.or_lt_two_pow (n := 62) ha hb)
theorem i64_and_nat (a b : Nat) (ha : a < 4611686018427387904) (hb : b < 4611686018427387904) : Go.bits .and .i64 (a : Int) (b : Int) = ((a &&& b : Nat) : Int) := by
  show IntKind.i64.wrap ((BitVec.ofInt 64 (a : Int) &&& BitVec.ofInt 64 (b : Int)).toNat : Int) = _
  rw [BitVec.toNat_and, ofInt_i64 a ha, ofInt_i64 b hb]
  exact i64_wrap_nat _ (Nat.lt_of_le_of_lt Nat.and_le_left ha)
theorem shl_val (c : Int) (h0 : 0 ≤ c) (h : c < 23) : IntKind.i64.wrap (2 ^ min c.toNat 64) = ((2 ^ c.toNat : Nat) : Int) := by
  have e : min c.toNat 64 = c.toNat := by omega
  rw [e, show ((2 : Int) ^ c.toNat) = ((2 ^ c.toNat : Nat) : Int) by simp]
  exact i64_wrap_nat _ (Nat.pow_lt_pow_of_lt (a := 2) (n := c.toNat) (m := 62) (by decide) (by omega))

theorem lab_take {L : List Int} (h : isLab L = true) (k : Nat) : isLab (L.take k) = true := by
  unfold isLab at *
  rw [List.all_eq_true] at *
  exact fun x hx => h x (List.mem_of_mem_take hx)
theorem lab_at {L : List Int} (h : isLab L = true) {k : Nat} (hk : k < L.length) : L[k]?.getD 0 < 23 := by
  have := List.all_eq_true.1 h L[k] (List.getElem_mem hk)
  simpa [lab1, hk] using this

theorem bits_any (v : Value) (L : List Int) (w : World) (h : Lab w v L) (hn : L.length ≤ 140737488351232) (hl : isLab L = true) :
    Calls Tryd.prog 19 #[v] w fun e w' => e = .returned (.int .i64 (bitsN L)) ∧ w = w' := by
  obtain ⟨hb, ⟨a, cap, rfl, rfl, _⟩ | ⟨b, off, cap, rfl, h0, hc⟩⟩ := h
  · clear hl
    go_enter Tryd.func19, Tryd.ntmps19
    go_wp2
    refine wp_loop_rounds 1 ?_; rw [rounds_succ]
    go_wp2
    go_ret
    exact ⟨rfl, rfl⟩
  · obtain ⟨n, hnn⟩ : ∃ n, n = L.length := ⟨_, rfl⟩
    rw [← hnn] at hc h0 hn ⊢
    have HL := Lib.hid hnn; clear hnn
    have HK := Lib.hid hc; clear hc
    have HB := Lib.hid hb; clear hb
    have HI := Lib.hid hl; clear hl
    go_enter Tryd.func19, Tryd.ntmps19
    go_wp2
    go_loop [3, 5, 8] (fun x _ i => ∃ (k q : Nat), k ≤ n ∧ i = .int .i64 k ∧ x = .int .i64 q ∧ q = bitsN (L.take k)) (fun _ _ i => n - (intOf i).toNat)
    case atStart => exact ⟨0, 0, Nat.zero_le _, rfl, rfl, rfl⟩
    case round =>
      obtain ⟨k, q, hk, rfl, rfl, hq⟩ := hrel
      have HQ := Lib.hid hq; clear hq
      by_cases hlt : k < n
      · have hcell := HK.out k hlt
        have hbd := HB.out.at (k := k) (by have := HL.out; omega)
        have h23 := lab_at HI.out (k := k) (by have := HL.out; omega)
        have hts := take_snoc L k (by have := HL.out; omega)
        obtain ⟨c, hcd⟩ : ∃ c, c = L[k]?.getD 0 := ⟨_, rfl⟩
        rw [← hcd] at hcell hbd h23 hts
        have HC := Lib.hid hcd; clear hcd
        obtain ⟨hc0, hc1⟩ := hbd
        have hq1 : q < 8388608 := by rw [HQ.out]; exact bitsN_lt _ (lab_take HI.out k)
        obtain ⟨B, hB⟩ : ∃ B : Nat, B = 2 ^ c.toNat := ⟨_, rfl⟩
        have hB1 : B < 8388608 := by rw [hB]; exact Nat.pow_lt_pow_of_lt (a := 2) (n := c.toNat) (m := 23) (by decide) (by omega)
        have e1 : IntKind.i64.wrap (2 ^ min c.toNat 64) = (B : Int) := by rw [hB]; exact shl_val c hc0 h23
        have e1' : wrap64 (2 ^ c.toNat) = (B : Int) := by rw [← e1, show min c.toNat 64 = c.toNat by omega]; exact (IntWalk.i64_left _).symm
        obtain ⟨Q, hQ⟩ : ∃ Q : Nat, Q = q ||| B := ⟨_, rfl⟩
        have e2 : Go.bits .or .i64 (q : Int) (B : Int) = (Q : Int) := by rw [hQ]; exact i64_or_nat q B (by omega) (by omega)
        have HS := Lib.hid (show Q = bitsN (L.take (k + 1)) by rw [hts, bitsN_snoc, hQ, hB, HQ.out])
        clear hB hQ hts
        go_wp2
        go_round
        case rel => exact ⟨k + 1, Q, by omega, by go_num, rfl, HS.out⟩
        case measure => simp [intOf]; omega
      · have HT := Lib.hid (show L.take k = L from List.take_of_length_le (by have := HL.out; omega))
        go_wp2
        go_ret
        exact ⟨ret_int (by rw [HQ.out, HT.out]), rfl⟩
end Go.Proofs.YtoceibpgapjhcaaDoor
