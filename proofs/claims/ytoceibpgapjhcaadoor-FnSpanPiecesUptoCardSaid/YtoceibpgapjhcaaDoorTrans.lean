/- What the Transformer's Transform returns and writes, at a row of bytes of the caller's own. -/
import Derived.Test.YtoceibpgapjhcaaDoorSpan
import Derived.Laws.CopyOwn
namespace Go.Proofs.YtoceibpgapjhcaaDoor
open Go.RowKit
set_option linter.unusedVariables false

theorem step_n_le (r : R) (c : Int) : (step r c).n ≤ r.n + 1 := by
  unfold step
  split
  · split
    · exact Nat.le_succ _
    · split
      · exact Nat.le_succ _
      · exact Nat.le_refl _
  · exact Nat.le_succ _
theorem run_n_le (l : List Int) (r : R) : (run r l).n ≤ r.n + l.length := by
  induction l generalizing r with
  | nil => exact Nat.le_refl _
  | cons c t ih =>
    have h1 := ih (step r c)
    have h2 := step_n_le r c
    have e : run r (c :: t) = run (step r c) t := rfl
    rw [e]
    simp only [List.length_cons]
    omega
theorem OwnV.cut {w : World} {e : TypeId} {g n cap : Nat} {xs : List Value} (h : OwnV w e g n cap xs) {m : Nat} (hm : m ≤ n) : OwnV w e g m cap (xs.take m) := by
  obtain ⟨h1, cur, h2, h3, h4, h5, h6⟩ := h
  exact ⟨by simp; omega, cur, h2, by omega, h4, h5, by rw [← h6, List.take_take]; congr 1; omega⟩
theorem Own.cut {w : World} {e : TypeId} {g n cap : Nat} {L : List Int} (h : Own w e g n cap L) {m : Nat} (hm : m ≤ n) : Own w e g m cap (L.take m) :=
  ⟨fun c hc => h.1 c (List.mem_of_mem_take hc), by rw [List.map_take]; exact h.2.cut hm⟩
theorem Own.cap_le {w : World} {e : TypeId} {g n cap : Nat} {L : List Int} (h : Own w e g n cap L) : n ≤ cap ∧ cap ≤ maxLen := by
  obtain ⟨_, _, cur, _, h3, h4, _⟩ := h; exact ⟨h3, h4⟩
theorem apart_own {g n cap bt : Nat} (h : g ≠ bt) : Apart (.slice (some ⟨g, 0, none⟩) n cap) bt := by
  intro a n' c' hv _
  injection hv with h1 h2 h3
  injection h1 with h1
  subst h1; exact h
theorem byte_cells (l : List Int) : ∀ v ∈ l.map (Value.int .u8), v.oneCell' = true := by
  intro v hv
  obtain ⟨x, _, rfl⟩ := List.mem_map.1 hv
  rfl
theorem info5s : (Tryd.prog.info? 5).map (·.size) = some 1 := by kernel_rfl

def vals (l : List Int) : List Value := l.map (Value.int .u8)
def TrPost (bt gd : Nat) (hs : Value) (td : TypeId) (B : Nat) (w : World) (r : R) (D : List Value) (res : Value) (e : Ending) (w' : World) : Prop :=
  e = .returned (.tuple #[.int .i64 r.n, .int .i64 r.n, res]) ∧ Tf w' bt hs r.st r.seen ∧ w'.heap[gd]? = some (.cells D.toArray td (0, 0)) ∧ Below B w w'

set_option maxRecDepth 100000 in
set_option maxHeartbeats 1000000 in
theorem transform_fit (bt gd gs st seen : Nat) (td ts : TypeId) (hs : Value) (eof : Bool) (E : Addr) (m mc n cap B : Nat) (cur : List Value) (L : List Int) (w : World)
    (hgd : w.heap[gd]? = some (.cells cur.toArray td (0, 0))) (hcm : cur.length = m) (hnm : n ≤ m) (hm : m ≤ 140737488351232) (ho : Own w ts gs n cap L)
    (h1 : gs ≠ bt) (h2 : bt < gd) (h3 : 3 < bt) (hB1 : B ≤ bt) (hB2 : B ≤ gd)
    (htf : Tf w bt hs st seen) (hT : TabAt w) (hst : st < 5) (hseen : seen < 65536) (hE : w.cell? ⟨0, 0, none⟩ = some (.iface 88 (.pointer (some E)))) :
    Calls Tryd.prog 42 #[.pointer (some ⟨bt, 0, none⟩), .slice (some ⟨gd, 0, none⟩) m mc, .slice (some ⟨gs, 0, none⟩) n cap, .bool eof] w
      (TrPost bt gd hs td B w (run ⟨0, true, st, seen⟩ L) (splice cur 0 (vals (L.take (run ⟨0, true, st, seen⟩ L).n))) (erv (fineR (run ⟨0, true, st, seen⟩ L)) E)) := by
  have hlen := ho.len
  obtain ⟨hc1, hc2⟩ := ho.cap_le
  have hBs : B ≤ w.heap.size := by have := htf.lt; omega
  have hrn := run_n_le L ⟨0, true, st, seen⟩
  have HSP := Lib.hid (fun eof => span_any bt st seen hs eof E _ n cap L w ho.lab (by omega) (apart_own h1) h3 htf hT hst hseen hE)
  generalize hr : run ⟨0, true, st, seen⟩ L = r at HSP hrn ⊢
  clear hr
  obtain ⟨rn, rok, rst, rseen⟩ := r
  simp only [Nat.zero_add] at hrn
  have hrn2 : rn ≤ n := by omega
  clear hrn
  have HLEN := Lib.hid hlen; clear hlen
  have HCM := Lib.hid hcm; clear hcm
  have HO := Lib.hid ho; clear ho
  have HG := Lib.hid hgd; clear hgd
  clear htf hT hE
  generalize hev : erv (fineR ⟨rn, rok, rst, rseen⟩) E = ev
  have HEV := Lib.hid hev; clear hev
  go_enter Tryd.func42, Tryd.ntmps42
  go_wp2_with fail
  refine (HSP.out _).mono ?_
  rintro e w1 ⟨rfl, htf, hgr⟩
  simp only [HEV.out]
  clear HSP
  have HF := Lib.hid htf; clear htf
  have HGR := Lib.hid hgr; clear hgr
  go_wp2_with (with_reducible refine wpList_copy_splice rfl (.tmp 30) (.tmp 33) 22 22 rfl 5 Tryd.underlying22 info5s _ _ m mc rn cap rfl rfl gd 0 cur td ?gd (vals (L.take rn)) ?len ?src ?fit ?one (bt + 1) w1 ?below (by omega) ?rest)
  case gd => exact (HGR.out.block gd (lt_of_block HG.out) (by simp; omega)).trans HG.out
  case len =>
    have h0 : (vals (L.take rn)).length = rn := by
      have := HLEN.out
      simp [vals]; omega
    rw [h0]
    exact (Nat.min_eq_left (by omega)).symm
  case src =>
    intro hpos j v hv
    have hk := HO.out.keep (HGR.out.block gs HO.out.lt (by simpa using h1))
    exact (hk.cut hrn2).2.cells j v (by simpa [vals] using hv)
  case fit =>
    have := HLEN.out
    have := HCM.out
    simp [vals]; omega
  case one => exact byte_cells _
  case below => exact Below.refl _ _
  case rest =>
    intro w2 hg2 hb2
    have HB2 := Lib.hid hb2; clear hb2
    go_wp2
    refine bodyPost_ret (v := .tuple #[.int .i64 rn, .int .i64 rn, ev]) (by simp [results, Tryd.results42, go_sem]) rfl ⟨rfl, (HB2.out.block bt (Nat.lt_succ_self bt)).trans HF.out, hg2.out, (below_grown HGR.out hB1 hBs).trans (HB2.out.mono (by omega))⟩

set_option maxRecDepth 100000 in
set_option maxHeartbeats 1000000 in
/-- With less room: what fits, if that conforms, and the error says so. -/
theorem transform_short (bt gd gs st seen : Nat) (td ts : TypeId) (hs : Value) (eof : Bool) (E D : Addr) (m mc n cap B : Nat) (cur : List Value) (L : List Int) (w : World)
    (hgd : w.heap[gd]? = some (.cells cur.toArray td (0, 0))) (hcm : cur.length = m) (hnm : m < n) (hn : n ≤ 140737488351232) (ho : Own w ts gs n cap L)
    (h1 : gs ≠ bt) (h2 : bt < gd) (h3 : 3 < bt) (hB1 : B ≤ bt) (hB2 : B ≤ gd)
    (htf : Tf w bt hs st seen) (hT : TabAt w) (hst : st < 5) (hseen : seen < 65536) (hE : w.cell? ⟨0, 0, none⟩ = some (.iface 88 (.pointer (some E))))
    (hD : w.cell? ⟨2, 0, none⟩ = some (.iface 88 (.pointer (some D)))) (hfine : fineR (run ⟨0, true, st, seen⟩ (L.take m)) = true) :
    Calls Tryd.prog 42 #[.pointer (some ⟨bt, 0, none⟩), .slice (some ⟨gd, 0, none⟩) m mc, .slice (some ⟨gs, 0, none⟩) n cap, .bool eof] w
      (TrPost bt gd hs td B w ⟨m, true, (run ⟨0, true, st, seen⟩ (L.take m)).st, (run ⟨0, true, st, seen⟩ (L.take m)).seen⟩ (splice cur 0 (vals (L.take m))) (.iface 88 (.pointer (some D)))) := by
  have hlen := ho.len
  obtain ⟨hc1, hc2⟩ := ho.cap_le
  have hBs : B ≤ w.heap.size := by have := htf.lt; omega
  have hok : (run ⟨0, true, st, seen⟩ (L.take m)).ok = true := by unfold fineR at hfine; rw [Bool.and_eq_true] at hfine; exact hfine.1
  have hrn : (run ⟨0, true, st, seen⟩ (L.take m)).n = m := by rw [run_ok_n _ _ _ _ hok]; simp; omega
  have HSP := Lib.hid (fun eof => span_any bt st seen hs eof E _ m cap (L.take m) w (ho.cut (by omega)).lab (by omega) (apart_own h1) h3 htf hT hst hseen hE)
  generalize hr : run ⟨0, true, st, seen⟩ (L.take m) = r at HSP hrn hfine ⊢
  clear hr hok
  obtain ⟨rn, rok, rst, rseen⟩ := r
  obtain rfl : rn = m := hrn
  have hev : erv (fineR ⟨rn, rok, rst, rseen⟩) E = .nilIface := by rw [hfine]; rfl
  have HEV := Lib.hid hev; clear hev
  have HLEN := Lib.hid hlen; clear hlen
  have HCM := Lib.hid hcm; clear hcm
  have HO := Lib.hid ho; clear ho
  have HG := Lib.hid hgd; clear hgd
  clear htf hT hE hfine
  go_enter Tryd.func42, Tryd.ntmps42
  go_wp2_with fail
  refine (HSP.out _).mono ?_
  rintro e w1 ⟨rfl, htf, hgr⟩
  simp only [HEV.out]
  clear HSP
  have HF := Lib.hid htf; clear htf
  have HGR := Lib.hid hgr; clear hgr
  go_wp2_with (with_reducible refine wpList_copy_splice rfl (.tmp 30) (.tmp 33) 22 22 rfl 5 Tryd.underlying22 info5s _ _ rn mc rn cap rfl rfl gd 0 cur td ?gd (vals (L.take rn)) ?len ?src ?fit ?one (bt + 1) w1 ?below (by omega) ?rest)
  case gd => exact (HGR.out.block gd (lt_of_block HG.out) (by simp; omega)).trans HG.out
  case len =>
    have h0 : (vals (L.take rn)).length = rn := by
      have := HLEN.out
      simp [vals]; omega
    rw [h0]
  case src =>
    intro hpos j v hv
    have hk := HO.out.keep (HGR.out.block gs HO.out.lt (by simpa using h1))
    exact (hk.cut (Nat.le_of_lt hnm)).2.cells j v (by simpa [vals] using hv)
  case fit =>
    have := HLEN.out
    have := HCM.out
    simp [vals]; omega
  case one => exact byte_cells _
  case below => exact Below.refl _ _
  case rest =>
    intro w2 hg2 hb2
    have HB2 := Lib.hid hb2; clear hb2
    go_wp2
    refine bodyPost_ret (v := .tuple #[.int .i64 rn, .int .i64 rn, .iface 88 (.pointer (some D))]) (by simp [results, Tryd.results42, go_sem]) rfl ⟨rfl, (HB2.out.block bt (Nat.lt_succ_self bt)).trans HF.out, hg2.out, (below_grown HGR.out hB1 hBs).trans (HB2.out.mono (by omega))⟩
end Go.Proofs.YtoceibpgapjhcaaDoor
