/- What bidirule.ZZStep, ZZAdvance and the thin package's Step and Advanced return: the machine of the plain law. Condition: the transitions are as listed. -/
import Derived.Test.YtoceibpgapjhcaaDoorRule
import Derived.Test.YtoceibpgapjhcaaDoorSpec2
import Derived.Test.YtoceibpgapjhcaaDoorPlain2
namespace Go.Proofs.YtoceibpgapjhcaaDoor
open Go.RowKit
set_option linter.unusedVariables false

def StepPost (w : World) (r : R) (e : Ending) (w' : World) : Prop := e = .returned (.tuple #[.int .u8 r.st, .int .u16 r.seen, .bool r.ok]) ∧ Below w.heap.size w w'
set_option maxHeartbeats 1000000 in
theorem zzStep_any (st q : Nat) (c : Int) (w : World) (hT : TabAt w) (hst : st ≤ 5) (hq : q < 65536) (hc0 : 0 ≤ c) (hc1 : c < 256) :
    Calls Tryd.prog 33 #[.int .u8 st, .int .u16 q, .int .u8 c] w (StepPost w (run ⟨0, true, st, q⟩ [c])) := by
  have h3 := hT.lt
  have HT := Lib.hid (fun o p => (hT.below (((Below.refl w.heap.size w).alloc (Nat.le_refl _) o).alloc (by simp) p)))
  have HA := Lib.hid (show Apart (.slice (some ⟨w.heap.size + 1, 0, none⟩) 1 1) w.heap.size by
    intro a n cap hv hn; injection hv with h1 h2 h3; injection h1 with h1; subst h1; simp)
  clear hT
  generalize hr : run ⟨0, true, st, q⟩ [c] = r
  have HR := Lib.hid hr; clear hr
  go_enter Tryd.func33, Tryd.ntmps33
  go_wp2_with fail
  have HO := Lib.hid (own_one (e := 5) (w.alloc (.cells #[.int .u8 st, .bool false, .int .u16 q] 62)) c hc0 hc1).lab
  simp only [World.size_alloc] at HO
  refine (advance_any w.heap.size st q (.bool false) (some ⟨w.heap.size + 1, 0, none⟩) 1 1 [c] _ HO.out (by omega) HA.out h3 (Tf.alloc (heap_alloc_new w _) _) (HT.out _ _) hst hq).mono ?_
  rintro e w1 ⟨rfl, htf, hgr⟩
  rw [HR.out] at htf ⊢
  have c0 := htf.c0
  have c2 := htf.c2
  have HB := Lib.hid (((((Below.refl w.heap.size w).alloc (Nat.le_refl _) _).alloc (by simp) _)).trans (below_grown hgr (Nat.le_refl _) (by simp; omega)))
  clear htf hgr
  obtain ⟨rn, rok, rst, rseen⟩ := r
  go_wp2
  go_quiet (fail)
  go_wp2
  go_ret3
  exact ⟨rfl, below_drewN HB.out _⟩

def StepIPost (w : World) (r : R) (e : Ending) (w' : World) : Prop := e = .returned (.tuple #[.int .i64 r.st, .int .i64 r.seen, .bool r.ok]) ∧ Below w.heap.size w w'
theorem step_any (a b c : Int) (st q : Nat) (ha : a = st) (hb : b = q) (w : World) (hT : TabAt w) (hst : st ≤ 5) (hq : q < 65536) (hc0 : 0 ≤ c) (hc1 : c < 256) :
    Calls Tryd.prog 16 #[.int .i64 a, .int .i64 b, .int .i64 c] w (StepIPost w (run ⟨0, true, st, q⟩ [c])) := by
  subst ha hb
  have HT := Lib.hid hT; clear hT
  have HS := Lib.hid (run_le [c] ⟨0, true, st, q⟩ hst)
  have HQ := Lib.hid (run_seen [c] ⟨0, true, st, q⟩ hq)
  generalize hr : run ⟨0, true, st, q⟩ [c] = r at HS HQ ⊢
  have HR := Lib.hid hr; clear hr
  have e1 : IntKind.u8.wrap (st : Int) = st := IntWalk.u8_in _ ⟨by omega, by omega⟩
  have e2 : IntKind.u16.wrap (q : Int) = q := IntWalk.u16_in _ ⟨by omega, by omega⟩
  have e3 : IntKind.u8.wrap c = c := IntWalk.u8_in _ ⟨by omega, by omega⟩
  go_enter Tryd.func16, Tryd.ntmps16
  go_wp2_with fail
  refine (zzStep_any st q c _ HT.out hst hq hc0 hc1).mono ?_
  rintro e w1 ⟨rfl, hb⟩
  have HB := Lib.hid hb; clear hb
  rw [HR.out]
  obtain ⟨rn, rok, rst, rseen⟩ := r
  have hs5 : rst ≤ 5 := HS.out
  have hq5 : rseen < 65536 := HQ.out
  go_wp2
  go_ret3
  exact ⟨rfl, HB.out⟩

def AdvancePost (w : World) (n : Nat) (r : R) (e : Ending) (w' : World) : Prop := e = .returned (.tuple #[.int .i64 r.n, .bool r.ok, .int .u8 r.st, .int .u16 r.seen, .bool (finSt r.st), .bool (rtl r.seen)]) ∧ Below w.heap.size w w'
set_option maxHeartbeats 1000000 in
theorem zzAdvance_any (a : Option Addr) (n cap : Nat) (L : List Int) (w : World) (h : Lab w (.slice a n cap) L) (hlen : n ≤ 140737488351232) (hT : TabAt w) :
    Calls Tryd.prog 37 #[.slice a n cap] w (AdvancePost w n (run init L)) := by
  have HA := Lib.hid (apart_old h (Nat.le_refl _))
  have h3 := hT.lt
  have hb0 := (Below.refl w.heap.size w).alloc (Nat.le_refl _) (.cells #[.int .u8 0, .bool false, .int .u16 0] 62)
  have HH := Lib.hid (h.below hb0)
  have HT := Lib.hid (hT.below hb0)
  clear h hT hb0
  have HS := Lib.hid (run_le L init (by decide))
  have HQ := Lib.hid (run_seen L init (by decide))
  generalize hr : run init L = r at HS HQ ⊢
  have HR := Lib.hid hr; clear hr
  go_enter Tryd.func37, Tryd.ntmps37
  go_wp2_with fail
  refine (advance_any w.heap.size 0 0 (.bool false) a n cap L _ HH.out hlen HA.out h3 (new_tf w _) HT.out (by omega) (by omega)).mono ?_
  rintro e w1 ⟨rfl, htf, hgr⟩
  rw [show run ⟨0, true, 0, 0⟩ L = r from HR.out] at htf ⊢
  have c0 := htf.c0
  have c2 := htf.c2
  have HB := Lib.hid (((Below.refl w.heap.size w).alloc (Nat.le_refl _) (.cells #[.int .u8 0, .bool false, .int .u16 0] 62)).trans (below_grown hgr (Nat.le_refl _) (by simp)))
  clear htf hgr
  obtain ⟨rn, rok, rst, rseen⟩ := r
  have hs5 : rst ≤ 5 := HS.out
  have hq5 : rseen < 65536 := HQ.out
  go_wp2
  go_quiet (first | (go_at_call 48; refine Calls.quiet_of_same ((isFinal_any _ _ _ ?_ hs5).mono fun _ _ ⟨he, hw⟩ => ⟨he, hw.symm⟩); simpa using c0) | (go_at_call 49; refine Calls.quiet_of_same ((isRTL_any _ _ _ ?_ hq5).mono fun _ _ ⟨he, hw⟩ => ⟨he, hw.symm⟩); simpa using c2))
  go_wp2
  exact bodyPost_ret (v := .tuple #[.int .i64 rn, .bool rok, .int .u8 rst, .int .u16 rseen, .bool (finSt rst), .bool (rtl rseen)]) (by simp [results, Tryd.results37, go_sem]) rfl ⟨rfl, below_drewN HB.out _⟩

def AdvancedPost (w : World) (r : R) (e : Ending) (w' : World) : Prop := e = .returned (.tuple #[.int .i64 r.n, .bool r.ok, .int .i64 r.st, .int .i64 r.seen, .bool (finSt r.st), .bool (rtl r.seen)]) ∧ Below w.heap.size w w'
set_option maxHeartbeats 1000000 in
theorem advanced_any (a : Option Addr) (n cap : Nat) (L : List Int) (w : World) (h : Lab w (.slice a n cap) L) (hn : n ≤ 140737488351232) (hT : TabAt w) :
    Calls Tryd.prog 21 #[.slice a n cap] w (AdvancedPost w (run init L)) := by
  obtain ⟨i0, hi, hz0, hz1, hz2⟩ := info_parts info5
  have HH := Lib.hid (h.below ((Below.refl w.heap.size w).alloc (Nat.le_refl _) (.cells #[] 5)))
  have HT := Lib.hid hT
  clear h hT
  have HS := Lib.hid (run_le L init (by decide))
  have HQ := Lib.hid (run_seen L init (by decide))
  generalize hr : run init L = r at HS HQ ⊢
  have HR := Lib.hid hr; clear hr
  go_enter Tryd.func21, Tryd.ntmps21
  go_wp2_with (at_builtin; refine wpList_append_lab rfl (.tmp 15) (.tmp 16) 22 rfl 5 i0 Tryd.underlying22 hi hz0 hz1 hz2 w.heap.size 0 0 [] rfl (own_empty w) a n cap L rfl HH.out n (Nat.zero_add n) (by omega) ?_)
  intro g' cap' w1 hg hown hgr
  have HB := Lib.hid (((Below.refl w.heap.size w).alloc (Nat.le_refl _) (.cells #[] 5)).trans (below_grown hgr (Nat.le_refl _) (by simp)))
  have HO := Lib.hid hown; clear hown hgr hg
  go_wp2_with fail
  refine (zzAdvance_any _ _ _ L _ HO.out.lab hn (HT.out.below HB.out)).mono ?_
  rintro e w2 ⟨rfl, hb2⟩
  have HB2 := Lib.hid (HB.out.trans (hb2.mono HB.out.size)); clear hb2
  rw [HR.out]
  obtain ⟨rn, rok, rst, rseen⟩ := r
  have hs5 : rst ≤ 5 := HS.out
  have hq5 : rseen < 65536 := HQ.out
  go_wp2
  exact bodyPost_ret (v := .tuple #[.int .i64 rn, .bool rok, .int .i64 rst, .int .i64 rseen, .bool (finSt rst), .bool (rtl rseen)]) (by simp [results, Tryd.results21, go_sem]) rfl ⟨rfl, HB2.out⟩
end Go.Proofs.YtoceibpgapjhcaaDoor
