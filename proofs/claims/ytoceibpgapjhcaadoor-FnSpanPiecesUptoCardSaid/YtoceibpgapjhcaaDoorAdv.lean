/- What (*Transformer).advance returns and leaves: the machine of the plain law. Conditions: the transitions are as listed, the label's block is not the Transformer's. -/
import Derived.Test.YtoceibpgapjhcaaDoorRows
import Derived.Test.YtoceibpgapjhcaaDoorBase
import Derived.Test.YtoceibpgapjhcaaDoorPlain
import Derived.Outline
import Derived.BigQuiet
import Derived.Deep.QuietTactic
import Derived.Laws.BitsAllLaws
namespace Go.Proofs.YtoceibpgapjhcaaDoor
open Go.RowKit
set_option linter.unusedVariables false

def TabAt (w : World) : Prop := ∀ st, st ≤ 5 →
  w.cell? ⟨3, st * 4, none⟩ = some (.int .u8 (n0 st)) ∧ w.cell? ⟨3, st * 4 + 1, none⟩ = some (.int .u16 (m0 st)) ∧
  w.cell? ⟨3, st * 4 + 2, none⟩ = some (.int .u8 (n1 st)) ∧ w.cell? ⟨3, st * 4 + 3, none⟩ = some (.int .u16 (m1 st))

/-- The Transformer's block. -/
def Tf (w : World) (bt : Nat) (hs : Value) (st seen : Nat) : Prop := w.heap[bt]? = some (.cells #[.int .u8 st, hs, .int .u16 seen] 62 (0, 0))
theorem Tf.c0 {w : World} {bt : Nat} {hs : Value} {st seen : Nat} (h : Tf w bt hs st seen) : w.cell? ⟨bt, 0, none⟩ = some (.int .u8 st) := by unfold Tf at h; simp [World.cell?, h]
theorem Tf.c2 {w : World} {bt : Nat} {hs : Value} {st seen : Nat} (h : Tf w bt hs st seen) : w.cell? ⟨bt, 2, none⟩ = some (.int .u16 seen) := by unfold Tf at h; simp [World.cell?, h]
theorem Tf.f0 {w : World} {bt : Nat} {hs : Value} {st seen : Nat} (h : Tf w bt hs st seen) : w.frozen? ⟨bt, 0, none⟩ = false := by unfold Tf at h; simp [World.frozen?, h]
theorem Tf.f2 {w : World} {bt : Nat} {hs : Value} {st seen : Nat} (h : Tf w bt hs st seen) : w.frozen? ⟨bt, 2, none⟩ = false := by unfold Tf at h; simp [World.frozen?, h]

theorem Tf.lt {w : World} {bt : Nat} {hs : Value} {st seen : Nat} (h : Tf w bt hs st seen) : bt < w.heap.size := lt_of_block h
theorem Tf.alloc {w : World} {bt : Nat} {hs : Value} {st seen : Nat} (h : Tf w bt hs st seen) (o : Obj) : Tf (w.alloc o) bt hs st seen := (Below.heap_alloc w o bt h.lt).trans h
theorem heap_setCell_same {w : World} {b j : Nat} {cs : Array Value} {t : TypeId} (u : Value) (h : w.heap[b]? = some (.cells cs t (0, 0))) : (w.setCell ⟨b, j, none⟩ u).heap[b]? = some (.cells (cs.setIfInBounds j u) t (0, 0)) := by
  have hlt := lt_of_block h
  have h' : w.heap[b] = .cells cs t (0, 0) := by simpa [Array.getElem?_eq_getElem hlt] using h
  show (w.heap.modify b _)[b]? = _
  rw [Array.getElem?_eq_getElem (by simpa using hlt), Array.getElem_modify_self, h']
  rfl
theorem Tf.set0 {w : World} {bt : Nat} {hs : Value} {st seen : Nat} (h : Tf w bt hs st seen) (N : Nat) : Tf (w.setCell ⟨bt, 0, none⟩ (.int .u8 N)) bt hs N seen := heap_setCell_same _ h
theorem Tf.set2 {w : World} {bt : Nat} {hs : Value} {st seen : Nat} (h : Tf w bt hs st seen) (N : Nat) : Tf (w.setCell ⟨bt, 2, none⟩ (.int .u16 N)) bt hs st N := heap_setCell_same _ h
theorem grown_refl (w : World) (r : Option Nat) : w.grownBy w r := ⟨rfl, rfl, rfl, Nat.le_refl _, fun _ _ _ => rfl⟩
theorem grown_set {w w' : World} {b : Nat} (h : w.grownBy w' (some b)) (j : Nat) (u : Value) : w.grownBy (w'.setCell ⟨b, j, none⟩ u) (some b) :=
  ⟨h.os, h.tape, h.output, by have := h.size; simpa [World.setCell] using this, fun k hk hne => (Below.heap_setCell _ _ _ _ (fun e => hne (by simp [e]))).trans (h.block k hk hne)⟩
theorem grown_alloc {w w' : World} {r : Option Nat} (h : w.grownBy w' r) (o : Obj) : w.grownBy (w'.alloc o) r :=
  ⟨h.os, h.tape, h.output, by have := h.size; simp; omega, fun k hk hne => (Below.heap_alloc _ _ _ (by have := h.size; omega)).trans (h.block k hk hne)⟩

theorem ne_val (x : Nat) : ((x : Int) != 0) = decide (x ≠ 0) := by
  rw [Bool.eq_iff_iff]; simp
theorem rtl_val (q : Nat) (h : q < 65536) : (Go.bits .and .u16 (q : Int) 8226 != 0) = rtl q := by
  rw [show (8226 : Int) = ((8226 : Nat) : Int) from rfl, u16_and_nat q 8226 h (by decide), ne_val]; rfl
theorem excl_val (q : Nat) (h : q < 65536) : (Go.bits .and .u16 (q : Int) 36 == 36) = excl q := by
  rw [show (36 : Int) = ((36 : Nat) : Int) from rfl, u16_and_nat q 36 h (by decide), Bool.eq_iff_iff, beq_iff_eq]; unfold excl; rw [decide_eq_true_eq]; omega
theorem and_val (m q : Nat) (hm : m < 65536) (h : q < 65536) : (Go.bits .and .u16 (m : Int) (q : Int) != 0) = decide (m &&& q ≠ 0) := by rw [u16_and_nat m q hm h, ne_val]
theorem m0_lt (s : Nat) : m0 s < 65536 := by unfold m0; split <;> decide
theorem m1_lt (s : Nat) : m1 s < 65536 := by unfold m1; split <;> decide
theorem bit_lt (c : Int) : bit c < 65536 := by
  unfold bit; split
  · exact Nat.pow_lt_pow_of_lt (a := 2) (n := c.toNat) (m := 16) (by decide) (by omega)
  · decide
theorem bit_val (c : Int) (h0 : 0 ≤ c) : IntKind.u16.wrap (2 ^ min c.toNat 16) = ((bit c : Nat) : Int) := by
  rw [IntKind.wrap_u16]
  unfold bit
  split
  · rename_i h
    have : min c.toNat 16 = c.toNat := by omega
    rw [this]
    have hlt : 2 ^ c.toNat < 65536 := Nat.pow_lt_pow_of_lt (a := 2) (n := c.toNat) (m := 16) (by decide) (by omega)
    rw [show ((2 : Int) ^ c.toNat) = ((2 ^ c.toNat : Nat) : Int) by simp]
    generalize 2 ^ c.toNat = x at hlt ⊢
    omega
  · have : min c.toNat 16 = 16 := by omega
    rw [this]; rfl
theorem or_lt {a b : Nat} (ha : a < 65536) (hb : b < 65536) : a ||| b < 65536 := Nat.or_lt_two_pow (n := 16) ha hb

theorem isRTL_any (bt seen : Nat) (w : World) (hc : w.cell? ⟨bt, 2, none⟩ = some (.int .u16 seen)) (hs : seen < 65536) :
    Calls Tryd.prog 49 #[.pointer (some ⟨bt, 0, none⟩)] w fun e w' => e = .returned (.bool (rtl seen)) ∧ w = w' := by
  have hb : (Go.bits .and .u16 (seen : Int) 8226 != 0) = rtl seen := rtl_val seen hs
  go_enter Tryd.func49, Tryd.ntmps49
  go_wp2
  go_ret
  exact ⟨rfl, rfl⟩

def AdvPost (bt : Nat) (hs : Value) (w : World) (r : R) (e : Ending) (w' : World) : Prop :=
  e = .returned (.tuple #[.int .i64 r.n, .bool r.ok]) ∧ Tf w' bt hs r.st r.seen ∧ w.grownBy w' (some bt)

set_option maxHeartbeats 2000000 in
theorem advance_some (bt st seen : Nat) (hs : Value) (b off n cap : Nat) (L : List Int) (w : World) (hb : Bytes L) (hn : n = L.length) (hcell : ∀ i, i < n → w.cell? ⟨b, off + i, none⟩ = some (.int .u8 (L[i]?.getD 0)))
    (hlen : n ≤ 140737488351232) (hne : b ≠ bt) (h3 : 3 < bt) (htf : Tf w bt hs st seen) (hT : TabAt w) (hst : st ≤ 5) (hseen : seen < 65536) :
    Calls Tryd.prog 44 #[.pointer (some ⟨bt, 0, none⟩), .slice (some ⟨b, off, none⟩) n cap] w (AdvPost bt hs w (run ⟨0, true, st, seen⟩ L)) := by
  have HN := Lib.hid hn; clear hn
  have HC := Lib.hid hcell; clear hcell
  have HB := Lib.hid hb; clear hb
  have HT := Lib.hid hT; clear hT
  have HF := Lib.hid htf; clear htf
  go_enter Tryd.func44, Tryd.ntmps44
  go_wp2
  go_loopw [4] (fun i wr => ∃ k s q : Nat, k ≤ n ∧ i = .int .i64 k ∧ s ≤ 5 ∧ q < 65536 ∧ Tf wr bt hs s q ∧ w.grownBy wr (some bt) ∧ run ⟨0, true, st, seen⟩ L = run ⟨k, true, s, q⟩ (L.drop k)) (fun i _ => n - (intOf i).toNat)
  case atStart => exact ⟨0, st, seen, Nat.zero_le _, rfl, hst, hseen, HF.out, ⟨rfl, rfl, rfl, Nat.le_refl _, fun _ _ _ => rfl⟩, rfl⟩
  case round =>
    obtain ⟨k, s, q, hk, rfl, hs5, hq, htf, hgr, hrun⟩ := hrel
    have c0 := htf.c0
    have c2 := htf.c2
    have f0 := htf.f0
    have f2 := htf.f2
    have HTF := Lib.hid htf; clear htf
    have HG := Lib.hid hgr; clear hgr
    have HR := Lib.hid hrun; clear hrun
    by_cases hlt : k < n
    · have hcell := HG.out.cell (HC.out k hlt) (by simpa using hne)
      have hbd := HB.out.at (k := k) (by have := HN.out; omega)
      obtain ⟨c, hcd⟩ : ∃ c, c = L[k]?.getD 0 := ⟨_, rfl⟩
      rw [← hcd] at hcell hbd
      have HCD := Lib.hid hcd; clear hcd
      obtain ⟨hc0, hc1⟩ := hbd
      obtain ⟨B, hB⟩ : ∃ B, B = bit c := ⟨_, rfl⟩
      obtain ⟨Q, hQ⟩ : ∃ Q, Q = q ||| B := ⟨_, rfl⟩
      have hB16 : B < 65536 := hB ▸ bit_lt c
      have hQ16 : Q < 65536 := hQ ▸ or_lt hq hB16
      have e1 : IntKind.u16.wrap (2 ^ min c.toNat 16) = (B : Int) := by rw [hB]; exact bit_val c hc0
      have e2 : Go.bits .or .u16 (q : Int) (B : Int) = (Q : Int) := by rw [hQ]; exact u16_or_nat q B hq hB16
      have HBB := Lib.hid hB; clear hB
      have HQ := Lib.hid hQ; clear hQ
      have e3 := excl_val Q hQ16
      cases hx : excl Q
      · rw [hx] at e3
        have hT4 := HT.out s hs5
        obtain ⟨M0, hM0⟩ : ∃ M0, M0 = m0 s := ⟨_, rfl⟩
        obtain ⟨N0, hN0⟩ : ∃ N0, N0 = n0 s := ⟨_, rfl⟩
        obtain ⟨M1, hM1⟩ : ∃ M1, M1 = m1 s := ⟨_, rfl⟩
        obtain ⟨N1, hN1⟩ : ∃ N1, N1 = n1 s := ⟨_, rfl⟩
        rw [← hM0, ← hN0, ← hM1, ← hN1] at hT4
        obtain ⟨t0, t1, t2, t3⟩ := hT4
        have t0 := HG.out.cell t0 (by simp; omega)
        have t1 := HG.out.cell t1 (by simp; omega)
        have t2 := HG.out.cell t2 (by simp; omega)
        have t3 := HG.out.cell t3 (by simp; omega)
        have e4 := and_val M0 B (hM0 ▸ m0_lt s) hB16
        have e5 := and_val M1 B (hM1 ▸ m1_lt s) hB16
        have HM0 := Lib.hid hM0; clear hM0
        have HN0 := Lib.hid hN0; clear hN0
        have HM1 := Lib.hid hM1; clear hM1
        have HN1 := Lib.hid hN1; clear hN1
        have hn3 : ¬ bt = 3 := by omega
        have hn3' : ¬ 3 = bt := by omega
        have hsz : bt < wr.heap.size := World.block_lt_of_cell? wr ⟨bt, 0, none⟩ c0
        have hsz' : ¬ bt = wr.heap.size := by omega
        have hsz3 : 3 < wr.heap.size := by omega
        cases h4 : decide (M0 &&& B ≠ 0)
        · rw [h4] at e4
          have hz0 : ¬ m0 s &&& bit c ≠ 0 := by have := of_decide_eq_false h4; rwa [HM0.out, HBB.out] at this
          have HZ0 := Lib.hid hz0; clear hz0 h4
          cases h5 : decide (M1 &&& B ≠ 0)
          · rw [h5] at e5
            have hz1 : ¬ m1 s &&& bit c ≠ 0 := by have := of_decide_eq_false h5; rwa [HM1.out, HBB.out] at this
            have HZ1 := Lib.hid hz1; clear hz1 h5
            have HS := Lib.hid (step_bad k s q c (by rw [← HBB.out, ← HQ.out]; exact hx) HZ0.out HZ1.out)
            clear hx
            cases hr : rtl Q
            · have HRT := Lib.hid hr; clear hr
              go_wp2_with fail
              refine (isRTL_any bt Q _ ((((HTF.out.set2 Q).set0 5).alloc _).c2) hQ16).mono ?_
              rintro e w' ⟨rfl, rfl⟩
              rw [HRT.out]
              go_wp2
              go_roundw
              case rel => exact ⟨k + 1, 5, Q, by omega, by go_num, Nat.le_refl _, hQ16, ((HTF.out.set2 Q).set0 5).alloc _, grown_alloc (grown_set (grown_set HG.out _ _) _ _) _, by rw [HR.out, run_next (by have := HN.out; omega) HCD.out, HS.out, ← HBB.out, ← HQ.out, HRT.out]; rfl⟩
              case measure => simp [intOf]; omega
            · have HRT := Lib.hid hr; clear hr
              go_wp2_with fail
              refine (isRTL_any bt Q _ ((((HTF.out.set2 Q).set0 5).alloc _).c2) hQ16).mono ?_
              rintro e w' ⟨rfl, rfl⟩
              rw [HRT.out]
              go_wp2
              go_ret2
              have hfin : run ⟨0, true, st, seen⟩ L = ⟨k, false, 5, Q⟩ := by rw [HR.out, run_next (by have := HN.out; omega) HCD.out, HS.out, ← HBB.out, ← HQ.out, HRT.out]; exact run_stop _ _ _ _
              rw [hfin]
              exact ⟨rfl, ((HTF.out.set2 Q).set0 5).alloc _, grown_alloc (grown_set (grown_set HG.out _ _) _ _) _⟩
          · rw [h5] at e5
            have hz1 : m1 s &&& bit c ≠ 0 := by have := of_decide_eq_true h5; rwa [HM1.out, HBB.out] at this
            have HS := Lib.hid (step_m1 k s q c (by rw [← HBB.out, ← HQ.out]; exact hx) HZ0.out hz1)
            clear hz1 h5 hx
            go_wp2
            go_roundw
            case rel => exact ⟨k + 1, N1, Q, by omega, by go_num, by rw [HN1.out]; exact n1_le s, hQ16, ((HTF.out.set2 Q).set0 N1).alloc _, grown_alloc (grown_set (grown_set HG.out _ _) _ _) _, by rw [HR.out, run_next (by have := HN.out; omega) HCD.out, HS.out, ← HBB.out, ← HQ.out, ← HN1.out]⟩
            case measure => simp [intOf]; omega
        · rw [h4] at e4
          have hz0 : m0 s &&& bit c ≠ 0 := by have := of_decide_eq_true h4; rwa [HM0.out, HBB.out] at this
          have HS := Lib.hid (step_m0 k s q c (by rw [← HBB.out, ← HQ.out]; exact hx) hz0)
          clear e5 h4 hz0 hx
          go_wp2
          go_roundw
          case rel => exact ⟨k + 1, N0, Q, by omega, by go_num, by rw [HN0.out]; exact n0_le s, hQ16, ((HTF.out.set2 Q).set0 N0).alloc _, grown_alloc (grown_set (grown_set HG.out _ _) _ _) _, by rw [HR.out, run_next (by have := HN.out; omega) HCD.out, HS.out, ← HBB.out, ← HQ.out, ← HN0.out]⟩
          case measure => simp [intOf]; omega
      · rw [hx] at e3
        have HS := Lib.hid (step_excl k s q c (by rw [← HBB.out, ← HQ.out]; exact hx))
        clear hx
        have hsz : bt < wr.heap.size := World.block_lt_of_cell? wr ⟨bt, 0, none⟩ c0
        go_wp2
        go_ret2
        have hfin : run ⟨0, true, st, seen⟩ L = ⟨k, false, 5, Q⟩ := by rw [HR.out, run_next (by have := HN.out; omega) HCD.out, HS.out, ← HBB.out, ← HQ.out]; exact run_stop _ _ _ _
        rw [hfin]
        exact ⟨rfl, (HTF.out.set2 Q).set0 5, grown_set (grown_set HG.out _ _) _ _⟩
    · have HS := Lib.hid (show L.drop k = [] from List.drop_eq_nil_of_le (by have := HN.out; omega))
      go_wp2
      go_ret2
      exact ⟨by rw [HR.out, HS.out]; rfl, by rw [HR.out, HS.out]; exact HTF.out, HG.out⟩
end Go.Proofs.YtoceibpgapjhcaaDoor
