/- What impl.Transformed returns, the room not nothing; the room nothing. Written out twice by one program. -/
import Derived.Test.YtoceibpgapjhcaaDoorTransd
namespace Go.Proofs.YtoceibpgapjhcaaDoor
open Go.RowKit
set_option linter.unusedVariables false

set_option maxRecDepth 100000 in
set_option maxHeartbeats 8000000 in
theorem transformed_pos (a : Option Addr) (n cap : Nat) (Lb : List Int) (a' : Option Addr) (n' cap' : Nat) (L : List Int) (m : Nat) (E : Addr) (rn : Nat) (ev : Value) (sd : Int) (w : World) (h : Lab w (.slice a n cap) Lb) (h' : Lab w (.slice a' n' cap') L)
    (hn : n ≤ 2147483647) (hn' : n' ≤ 2147483647) (hm : m ≤ 10000) (hm0 : 0 < m) (hT : TabAt w) (hE : w.cell? ⟨0, 0, none⟩ = some (.iface 88 (.pointer (some E))))
    (hsec : Second L n' m w E rn ev) (hsays : Says w ev sd) :
    Calls Tryd.prog 31 #[.slice a n cap, .slice a' n' cap', .int .i64 m] w (TransPost w m L rn sd) := by
  obtain ⟨i0, hi, hz0, hz1, hz2⟩ := info_parts info5
  have HH := Lib.hid h; clear h
  have HH' := Lib.hid h'; clear h'
  have HT := Lib.hid hT; clear hT
  have HE := Lib.hid hE; clear hE
  obtain ⟨C, hC, hmk⟩ := make_any n hn
  have HC := Lib.hid hC; clear hC
  obtain ⟨D, hD, hmd⟩ := make_any m (by omega)
  have HD := Lib.hid hD; clear hD
  have HSEC := Lib.hid hsec; clear hsec
  have HSAY := Lib.hid hsays; clear hsays
  go_enter Tryd.func31, Tryd.ntmps31
  go_wp2_with (go_at_call 39; refine (new_any _).mono ?_; rintro e w' ⟨rfl, rfl⟩)
  go_region_law (first
    | (refine step_append_lab rfl (.tmp 19) (.tmp 20) 22 rfl 5 i0 Tryd.underlying22 hi hz0 hz1 hz2 _ 0 0 [] rfl (own_none (by simp only [drew_heap, at_alloc, sz]; simp)) a n cap Lb rfl (HH.out.below (below_three w _ _ _)) n (Nat.zero_add n) (by omega) ?_; intro gA capA w1 hg hown hgr; have HO := Lib.hid hown; have HGR := Lib.hid hgr; have HGG := Lib.hid hg; clear hown hgr hg)
    | (refine step_append_lab rfl (.tmp 19) (.tmp 20) 22 rfl 5 i0 Tryd.underlying22 hi hz0 hz1 hz2 _ 0 0 [] rfl (own_none (by simp only [drew_heap, at_alloc, sz]; simp)) a n cap Lb rfl (HH.out.below (below_two w _ _)) n (Nat.zero_add n) (by omega) ?_; intro gA capA w1 hg hown hgr; have HO := Lib.hid hown; have HGR := Lib.hid hgr; have HGG := Lib.hid hg; clear hown hgr hg)
    | (go_simp; go_at_call 42; refine Calls.mono (R := After w) ?_ ?_; (first | with_reducible exact (ready_mba HC.out HGG.out HO.out HGR.out).calls hn HT.out HE.out | with_reducible exact (ready_bma HC.out HGG.out HO.out HGR.out).calls hn HT.out HE.out | with_reducible exact (ready_bam HC.out HGG.out HO.out HGR.out).calls hn HT.out HE.out); rintro e w2 ⟨x, st, q, rfl, hb, hf⟩; have HB2 := Lib.hid hb; have HF2 := Lib.hid hf; clear hb hf))
  all_goals
    go_wp2_with (first | (go_at_call 43; refine (reset_any w.heap.size _ _ _ _ HF2.out).mono ?_; rintro e w3 ⟨rfl, hf, hgr⟩; have HF3 := Lib.hid hf; have HB3 := Lib.hid (HB2.out.trans (below_grown hgr (Nat.le_refl _) HB2.out.size)); clear hf hgr) | (at_builtin; refine wpList_append_lab rfl (.tmp 32) (.tmp 33) 22 rfl 5 i0 Tryd.underlying22 hi hz0 hz1 hz2 _ 0 0 [] rfl (own_none (by simp only [at_alloc, sz]; simp)) a' n' cap' L rfl (HH'.out.below (below_more HB3.out _ _)) n' (Nat.zero_add n') (by omega) ?_))
    intro gB capB w4 hg hown hgr
    have HO4 := Lib.hid hown
    have HR4 := Lib.hid (ready_two HD.out HF3.out HB3.out hg hown hgr)
    clear hown hgr hg
    go_wp2_with (go_at_call 42; refine (HR4.out.calls2 hn' hm HT.out HE.out HSEC.out).mono ?_; rintro e w5 ⟨rfl, hg5, hb5⟩; have HG5 := Lib.hid hg5; have HB5 := Lib.hid hb5; clear hg5 hb5)
    have hrn : rn ≤ m := by
      rcases HSEC.out with ⟨h1, h2, _⟩ | ⟨h1, _, h2, _⟩
      · have := run_n_le L init
        have := HH'.out.len
        simp only [init, Nat.zero_add] at *
        omega
      · omega
    have hrl : rn ≤ L.length := by
      have h0 := HH'.out.len
      rcases HSEC.out with ⟨h1, h2, _⟩ | ⟨h1, _, h2, _⟩
      · have := run_n_le L init
        simp only [init, Nat.zero_add] at *
        omega
      · omega
    have HRL := Lib.hid hrl; clear hrl
    go_quiet (first | (go_at_call 41; refine Calls.quiet_of_same ((HSAY.out _ ?_).mono fun _ _ ⟨he, hw⟩ => ⟨he, hw.symm⟩); exact below_drewN HB5.out _))
    go_wp2
    exact bodyPost_ret (v := .tuple #[.slice (some ⟨w3.heap.size, 0, none⟩) rn m, .int .i64 rn, .int .i64 sd]) (by simp [results, Tryd.results31, go_sem]) rfl ⟨_, rfl, lab_splice HH'.out.1 HRL.out HG5.out, below_drewN HB5.out _⟩

set_option maxRecDepth 100000 in
set_option maxHeartbeats 8000000 in
theorem transformed_zero (a : Option Addr) (n cap : Nat) (Lb : List Int) (a' : Option Addr) (n' cap' : Nat) (L : List Int) (m : Nat) (E : Addr) (rn : Nat) (ev : Value) (sd : Int) (w : World) (h : Lab w (.slice a n cap) Lb) (h' : Lab w (.slice a' n' cap') L)
    (hn : n ≤ 2147483647) (hn' : n' ≤ 2147483647) (hm : m ≤ 10000) (hm0 : m = 0) (hT : TabAt w) (hE : w.cell? ⟨0, 0, none⟩ = some (.iface 88 (.pointer (some E))))
    (hsec : Second L n' m w E rn ev) (hsays : Says w ev sd) :
    Calls Tryd.prog 31 #[.slice a n cap, .slice a' n' cap', .int .i64 0] w (TransPost w m L rn sd) := by
  obtain ⟨i0, hi, hz0, hz1, hz2⟩ := info_parts info5
  have HH := Lib.hid h; clear h
  have HH' := Lib.hid h'; clear h'
  have HT := Lib.hid hT; clear hT
  have HE := Lib.hid hE; clear hE
  obtain ⟨C, hC, hmk⟩ := make_any n hn
  have HC := Lib.hid hC; clear hC
  obtain ⟨D, hD, hmd0⟩ := make_any m (by omega)
  have hmd : ∀ W, (Instr.makeSlice 22 (.int .i64 0) (.int .i64 0)).run Tryd.prog W = .ok (.slice (some ⟨W.heap.size, 0, none⟩) m m) (W.alloc (.cells D.toArray 5)) := by
    subst hm0; exact hmd0
  clear hmd0 hm0
  have HD := Lib.hid hD; clear hD
  have HSEC := Lib.hid hsec; clear hsec
  have HSAY := Lib.hid hsays; clear hsays
  go_enter Tryd.func31, Tryd.ntmps31
  go_wp2_with (go_at_call 39; refine (new_any _).mono ?_; rintro e w' ⟨rfl, rfl⟩)
  go_region_law (first
    | (refine step_append_lab rfl (.tmp 19) (.tmp 20) 22 rfl 5 i0 Tryd.underlying22 hi hz0 hz1 hz2 _ 0 0 [] rfl (own_none (by simp only [drew_heap, at_alloc, sz]; simp)) a n cap Lb rfl (HH.out.below (below_three w _ _ _)) n (Nat.zero_add n) (by omega) ?_; intro gA capA w1 hg hown hgr; have HO := Lib.hid hown; have HGR := Lib.hid hgr; have HGG := Lib.hid hg; clear hown hgr hg)
    | (refine step_append_lab rfl (.tmp 19) (.tmp 20) 22 rfl 5 i0 Tryd.underlying22 hi hz0 hz1 hz2 _ 0 0 [] rfl (own_none (by simp only [drew_heap, at_alloc, sz]; simp)) a n cap Lb rfl (HH.out.below (below_two w _ _)) n (Nat.zero_add n) (by omega) ?_; intro gA capA w1 hg hown hgr; have HO := Lib.hid hown; have HGR := Lib.hid hgr; have HGG := Lib.hid hg; clear hown hgr hg)
    | (go_simp; go_at_call 42; refine Calls.mono (R := After w) ?_ ?_; (first | with_reducible exact (ready_mba HC.out HGG.out HO.out HGR.out).calls hn HT.out HE.out | with_reducible exact (ready_bma HC.out HGG.out HO.out HGR.out).calls hn HT.out HE.out | with_reducible exact (ready_bam HC.out HGG.out HO.out HGR.out).calls hn HT.out HE.out); rintro e w2 ⟨x, st, q, rfl, hb, hf⟩; have HB2 := Lib.hid hb; have HF2 := Lib.hid hf; clear hb hf))
  all_goals
    go_wp2_with (first | (go_at_call 43; refine (reset_any w.heap.size _ _ _ _ HF2.out).mono ?_; rintro e w3 ⟨rfl, hf, hgr⟩; have HF3 := Lib.hid hf; have HB3 := Lib.hid (HB2.out.trans (below_grown hgr (Nat.le_refl _) HB2.out.size)); clear hf hgr) | (at_builtin; refine wpList_append_lab rfl (.tmp 32) (.tmp 33) 22 rfl 5 i0 Tryd.underlying22 hi hz0 hz1 hz2 _ 0 0 [] rfl (own_none (by simp only [at_alloc, sz]; simp)) a' n' cap' L rfl (HH'.out.below (below_more HB3.out _ _)) n' (Nat.zero_add n') (by omega) ?_))
    intro gB capB w4 hg hown hgr
    have HO4 := Lib.hid hown
    have HR4 := Lib.hid (ready_two HD.out HF3.out HB3.out hg hown hgr)
    clear hown hgr hg
    go_wp2_with (go_at_call 42; refine (HR4.out.calls2 hn' hm HT.out HE.out HSEC.out).mono ?_; rintro e w5 ⟨rfl, hg5, hb5⟩; have HG5 := Lib.hid hg5; have HB5 := Lib.hid hb5; clear hg5 hb5)
    have hrn : rn ≤ m := by
      rcases HSEC.out with ⟨h1, h2, _⟩ | ⟨h1, _, h2, _⟩
      · have := run_n_le L init
        have := HH'.out.len
        simp only [init, Nat.zero_add] at *
        omega
      · omega
    have hrl : rn ≤ L.length := by
      have h0 := HH'.out.len
      rcases HSEC.out with ⟨h1, h2, _⟩ | ⟨h1, _, h2, _⟩
      · have := run_n_le L init
        simp only [init, Nat.zero_add] at *
        omega
      · omega
    have HRL := Lib.hid hrl; clear hrl
    go_quiet (first | (go_at_call 41; refine Calls.quiet_of_same ((HSAY.out _ ?_).mono fun _ _ ⟨he, hw⟩ => ⟨he, hw.symm⟩); exact below_drewN HB5.out _))
    go_wp2
    exact bodyPost_ret (v := .tuple #[.slice (some ⟨w3.heap.size, 0, none⟩) rn m, .int .i64 rn, .int .i64 sd]) (by simp [results, Tryd.results31, go_sem]) rfl ⟨_, rfl, lab_splice HH'.out.1 HRL.out HG5.out, below_drewN HB5.out _⟩

theorem transformed_any (a : Option Addr) (n cap : Nat) (Lb : List Int) (a' : Option Addr) (n' cap' : Nat) (L : List Int) (m : Nat) (E : Addr) (rn : Nat) (ev : Value) (sd : Int) (w : World) (h : Lab w (.slice a n cap) Lb) (h' : Lab w (.slice a' n' cap') L)
    (hn : n ≤ 2147483647) (hn' : n' ≤ 2147483647) (hm : m ≤ 10000) (hT : TabAt w) (hE : w.cell? ⟨0, 0, none⟩ = some (.iface 88 (.pointer (some E))))
    (hsec : Second L n' m w E rn ev) (hsays : Says w ev sd) : Calls Tryd.prog 31 #[.slice a n cap, .slice a' n' cap', .int .i64 m] w (TransPost w m L rn sd) := by
  rcases Nat.eq_zero_or_pos m with hm0 | hm0
  · have := transformed_zero a n cap Lb a' n' cap' L m E rn ev sd w h h' hn hn' hm hm0 hT hE hsec hsays
    subst hm0
    exact this
  · exact transformed_pos a n cap Lb a' n' cap' L m E rn ev sd w h h' hn hn' hm hm0 hT hE hsec hsays
end Go.Proofs.YtoceibpgapjhcaaDoor
