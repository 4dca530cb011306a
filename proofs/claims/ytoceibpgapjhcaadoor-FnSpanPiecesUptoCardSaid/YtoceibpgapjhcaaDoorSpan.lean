/- What the Transformer's Span and Transform return, and what impl.saidOf says of their errors. Condition: the state is not the broken one. -/
import Derived.Test.YtoceibpgapjhcaaDoorRule
import Derived.Test.YtoceibpgapjhcaaDoorIs
namespace Go.Proofs.YtoceibpgapjhcaaDoor
open Go.RowKit
set_option linter.unusedVariables false

theorem step_n (k s q : Nat) (c : Int) (h : (step ⟨k, true, s, q⟩ c).ok = true) : (step ⟨k, true, s, q⟩ c).n = k + 1 := by
  unfold step at h ⊢
  simp only [if_true] at h ⊢
  by_cases h1 : excl (q ||| bit c) = true
  · rw [if_pos h1] at h; cases h
  · rw [if_neg h1] at h ⊢
    by_cases h2 : tr s (bit c) = 5 ∧ rtl (q ||| bit c) = true
    · rw [if_pos h2] at h; cases h
    · rw [if_neg h2]
theorem run_ok_n (l : List Int) (k s q : Nat) (h : (run ⟨k, true, s, q⟩ l).ok = true) : (run ⟨k, true, s, q⟩ l).n = k + l.length := by
  induction l generalizing k s q with
  | nil => rfl
  | cons c t ih =>
    have e : run ⟨k, true, s, q⟩ (c :: t) = run (step ⟨k, true, s, q⟩ c) t := rfl
    have hs := step_n k s q c
    rw [e] at h ⊢
    generalize step ⟨k, true, s, q⟩ c = r at h hs ⊢
    obtain ⟨n', ok', s', q'⟩ := r
    cases ok' with
    | false => rw [run_stop] at h; cases h
    | true =>
      have hn : n' = k + 1 := hs rfl
      rw [ih _ _ _ h, hn]
      simp; omega

/-- The error's value: nil, or the sentinel at that place. -/
def erv (ok : Bool) (E : Addr) : Value := if ok then .nilIface else .iface 88 (.pointer (some E))
def fineR (r : R) : Bool := r.ok && finSt r.st
def SpanPost (bt : Nat) (hs : Value) (E : Addr) (w : World) (r : R) (e : Ending) (w' : World) : Prop :=
  e = .returned (.tuple #[.int .i64 r.n, erv (fineR r) E]) ∧ Tf w' bt hs r.st r.seen ∧ w.grownBy w' (some bt)

set_option maxHeartbeats 1000000 in
theorem span_any (bt st seen : Nat) (hs : Value) (eof : Bool) (E : Addr) (a : Option Addr) (n cap : Nat) (L : List Int) (w : World) (h : Lab w (.slice a n cap) L) (hlen : n ≤ 140737488351232) (hne : Apart (.slice a n cap) bt) (h3 : 3 < bt)
    (htf : Tf w bt hs st seen) (hT : TabAt w) (hst : st < 5) (hseen : seen < 65536) (hE : w.cell? ⟨0, 0, none⟩ = some (.iface 88 (.pointer (some E)))) :
    Calls Tryd.prog 40 #[.pointer (some ⟨bt, 0, none⟩), .slice a n cap, .bool eof] w (SpanPost bt hs E w (run ⟨0, true, st, seen⟩ L)) := by
  have hl := h.len
  have HNN := Lib.hid (run_ok_n L 0 st seen)
  have HS := Lib.hid (run_le L ⟨0, true, st, seen⟩ (by show st ≤ 5; omega))
  generalize hr : run ⟨0, true, st, seen⟩ L = r at HS HNN ⊢
  have HR := Lib.hid hr; clear hr
  have HH := Lib.hid h; clear h
  have HA := Lib.hid hne; clear hne
  have HT := Lib.hid hT; clear hT
  have c0 := htf.c0
  have HF := Lib.hid htf; clear htf
  have HE := Lib.hid hE; clear hE
  have h5 : ((st : Int) == 5) = false := by simp; omega
  go_enter Tryd.func40, Tryd.ntmps40
  go_wp2_with fail
  refine (advance_any bt st seen hs a n cap L _ HH.out hlen HA.out h3 HF.out HT.out (by omega) hseen).mono ?_
  rintro e w1 ⟨rfl, htf, hgr⟩
  rw [HR.out] at htf ⊢
  have d0 := htf.c0
  have g0 := hgr.cell HE.out (by simp; omega)
  have HF1 := Lib.hid htf; clear htf
  have HG := Lib.hid hgr; clear hgr
  obtain ⟨rn, rok, rst, rseen⟩ := r
  have hs5 : rst ≤ 5 := HS.out
  cases rok
  · go_wp2
    exact bodyPost_ret (v := .tuple #[.int .i64 rn, .iface 88 (.pointer (some E))]) (by simp [results, Tryd.results40, go_sem]) rfl ⟨rfl, HF1.out, HG.out⟩
  · have hrn : rn = n := by have := HNN.out rfl; simp at this; omega
    subst hrn
    cases hf : finSt rst
    · go_wp2_with (go_at_call 48; refine (isFinal_any _ _ _ d0 hs5).mono ?_; rw [hf]; rintro e w' ⟨rfl, rfl⟩)
      refine bodyPost_ret (v := .tuple #[.int .i64 rn, .iface 88 (.pointer (some E))]) (by simp [results, Tryd.results40, go_sem]) rfl ⟨?_, HF1.out, HG.out⟩
      simp [fineR, hf, erv]
    · go_wp2_with (go_at_call 48; refine (isFinal_any _ _ _ d0 hs5).mono ?_; rw [hf]; rintro e w' ⟨rfl, rfl⟩)
      refine bodyPost_ret (v := .tuple #[.int .i64 rn, .nilIface]) (by simp [results, Tryd.results40, go_sem]) rfl ⟨?_, HF1.out, HG.out⟩
      simp [fineR, hf, erv]
end Go.Proofs.YtoceibpgapjhcaaDoor
