/- What impl.SpanAll returns at pieces of which all but the whole conform: the walk. -/
import Derived.Test.YtoceibpgapjhcaaDoorPcs3
namespace Go.Proofs.YtoceibpgapjhcaaDoor
open Go.RowKit
set_option linter.unusedVariables false

theorem info3 : (Tryd.prog.info? 3).map (fun i => (i.zero, i.size, i.bytes)) = some (some (.int .i64 0), 1, 8) := by kernel_rfl
theorem int_parts : ∃ i, Tryd.prog.info? 3 = some i ∧ i.zero = some (.int .i64 0) ∧ i.size = 1 ∧ i.bytes = 8 := by
  obtain ⟨i, hi, h⟩ := Option.map_eq_some_iff.1 info3
  simp only [Prod.mk.injEq] at h
  exact ⟨i, hi, h.1, h.2.1, h.2.2⟩
theorem one_cell (x : Value) (h : x.oneCell' = true) : ∀ u ∈ [x], u.oneCell' = true := by simpa using h
theorem tf_two (w : World) (a b : Obj) : Tf (((w.alloc (.cells #[.int .u8 0, .bool false, .int .u16 0] 62)).alloc a).alloc b) w.heap.size (.bool false) 0 0 := (Tf.alloc (Tf.alloc (new_tf w (.bool false)) a) b)
theorem st_start (w : World) : St w (((w.alloc (.cells #[.int .u8 0, .bool false, .int .u16 0] 62)).alloc (.cells #[] 3)).alloc (.cells #[] 3)) (w.heap.size + 1) 0 0 (w.heap.size + 1 + 1) 0 0 0 0 [] [] := by
  have h1 : (w.alloc (.cells #[.int .u8 0, .bool false, .int .u16 0] 62)).heap.size = w.heap.size + 1 := Array.size_push _
  have h2 : ((w.alloc (.cells #[.int .u8 0, .bool false, .int .u16 0] 62)).alloc (.cells #[] 3)).heap.size = w.heap.size + 1 + 1 := by rw [← h1]; exact Array.size_push _
  have o1 := ownV_lit (e := 3) (w.alloc (.cells #[.int .u8 0, .bool false, .int .u16 0] 62)) [] (by simp [maxLen])
  have o2 := ownV_lit (e := 3) ((w.alloc (.cells #[.int .u8 0, .bool false, .int .u16 0] 62)).alloc (.cells #[] 3)) [] (by simp [maxLen])
  rw [h1] at o1
  rw [h2] at o2
  exact ⟨o1.alloc _, o2, by omega, by omega, by omega, tf_two w _ _, ((((Below.refl _ _).alloc (Nat.le_refl _) _).alloc (by rw [h1]; omega) _).alloc (by rw [h2]; omega) _)⟩

set_option maxRecDepth 100000 in
set_option maxHeartbeats 4000000 in
theorem spanAll_some (b off cap : Nat) (Ps : List Pc) (E : Addr) (w : World) (h0 : 0 < Ps.length) (h5 : ∀ i p, Ps[i]? = some p → w.cell? ⟨b, off + i, none⟩ = some p.v ∧ Lab w p.v p.L)
    (hN : Ps.length ≤ 1000) (hsum : (jn Ps).length ≤ 140737488351232) (hby : Bytes' (jn Ps)) (hbeg : ∀ j, j < Ps.length → conf (jn (Ps.take j)) = true) (hT : TabAt w) (hE : w.cell? ⟨0, 0, none⟩ = some (.iface 88 (.pointer (some E)))) :
    Calls Tryd.prog 28 #[.slice (some ⟨b, off, none⟩) Ps.length cap] w (SpanAllPost w Ps) := by
  obtain ⟨i0, hi, hz0, hz1, hz2⟩ := info_parts info5
  obtain ⟨i3, hi3, hy0, hy1, hy2⟩ := int_parts
  obtain ⟨N, hNN⟩ : ∃ N, N = Ps.length := ⟨_, rfl⟩
  rw [← hNN] at h0 hN ⊢
  have HN := Lib.hid hNN; clear hNN
  have HS := Lib.hid hsum; clear hsum
  have HC := Lib.hid h5; clear h5
  have HBY := Lib.hid hby; clear hby
  have HBEG := Lib.hid hbeg; clear hbeg
  have HT := Lib.hid hT
  have h3 := hT.lt
  clear hT
  have HE : Hid (∀ W, Below w.heap.size w W → W.cell? ⟨0, 0, none⟩ = some (.iface 88 (.pointer (some E)))) := Lib.hid fun W hb => (hb.cell (p := ⟨0, 0, none⟩) (World.block_lt_of_cell? w _ hE)).trans hE
  clear hE
  go_enter Tryd.func28, Tryd.ntmps28
  go_wp2_with (go_at_call 39; refine (new_any _).mono ?_; rintro e w' ⟨rfl, rfl⟩)
  go_loopw [5, 6, 7, 8, 9, 10, 16] (fun counts said _ _ _ _ i wr => ∃ k gc cc gs cs st q : Nat, k ≤ N ∧ i = .int .i64 k ∧ counts = .slice (some ⟨gc, 0, none⟩) k cc ∧ said = .slice (some ⟨gs, 0, none⟩) k cs ∧ Hid (St w wr gc k cc gs k cs st q (lens (Ps.take k)) (zeros k)) ∧ st < 5 ∧ q < 65536 ∧ Hid (RunAt (jn (Ps.take k)) st q) ∧ Hid (conf (jn (Ps.take k)) = true)) (fun _ _ _ _ _ _ i _ => N - (intOf i).toNat)
  case atStart => exact ⟨0, w.heap.size + 1, 0, w.heap.size + 1 + 1, 0, 0, 0, Nat.zero_le _, rfl, rfl, rfl, Lib.hid (st_start w), by omega, by omega, Lib.hid ⟨rfl, rfl, rfl⟩, Lib.hid rfl⟩
  case round =>
    obtain ⟨k, gc, cc, gs, cs, st, q, hk, rfl, rfl, rfl, HST, hst, hq, HR, HCF⟩ := hrel
    by_cases hlt : k < N
    · obtain ⟨p, hp⟩ : ∃ p, Ps[k]? = some p := ⟨_, List.getElem?_eq_getElem (by have := HN.out; omega)⟩
      obtain ⟨hcell0, hlab0⟩ := HC.out k p hp
      obtain ⟨_, _, _, _, _, _, HBw⟩ := HST.out
      have hcell := (HBw.cell (p := ⟨b, off + k, none⟩) (World.block_lt_of_cell? w _ hcell0)).trans hcell0
      have HL := Lib.hid hlab0
      have HJ := Lib.hid (jn_snoc Ps k p hp)
      have HJL := Lib.hid (jn_le Ps (k + 1))
      have HLE := Lib.hid (lens_snoc Ps k p hp)
      clear hcell0 hlab0 hp
      have HB := Lib.hid HBw; clear HBw
      obtain ⟨pa, pn, pc, pL⟩ := p
      have hplen : pL.length = pn := HL.out.len
      have hr : pn ≤ 140737488351232 := by
        have h1 := HJ.out; have h2 := HJL.out; have h3 := HS.out
        rw [h1, List.length_append] at h2
        simp only at h2
        omega
      have HPL := Lib.hid hplen; clear hplen
      simp only [Pc.v] at hcell HL
      simp only at HJ HLE
      go_wp2_with (at_builtin; refine wpList_append_lab rfl (.tmp 23) (.tmp 24) 22 rfl 5 i0 Tryd.underlying22 hi hz0 hz1 hz2 _ 0 0 [] rfl (own_empty _) pa pn pc pL rfl (HL.out.below (HB.out.alloc HB.out.size _)) pn (Nat.zero_add pn) (by omega) ?_)
      intro gA capA wA hgA howA hgrA
      have hlt0 : w.heap.size < wr.heap.size := HST.out.2.2.2.2.2.1.lt
      have hneA : gA ≠ w.heap.size := by omega
      have HSA := Lib.hid (HST.out.src hgrA)
      have HOA := Lib.hid howA
      clear hgA howA hgrA hcell
      have hbt : Bytes' (jn (Ps.take k) ++ pL) := by
        rw [← HJ.out]
        intro c hc
        refine HBY.out c ?_
        have h : jn Ps = jn (Ps.take (k + 1)) ++ jn (Ps.drop (k + 1)) := by
          unfold jn
          rw [← List.flatten_append, ← List.map_append, List.take_append_drop]
        rw [h]; exact List.mem_append_left _ hc
      have hfine := fine_two hbt HR.out
      have hnext : fineR (run ⟨0, true, st, q⟩ pL) = true → RunAt (jn (Ps.take k) ++ pL) (run ⟨0, true, st, q⟩ pL).st (run ⟨0, true, st, q⟩ pL).seen := runAt_next HR.out
      rw [← HJ.out] at hfine hnext
      have hrn : fineR (run ⟨0, true, st, q⟩ pL) = true → (run ⟨0, true, st, q⟩ pL).n = pn := by
        intro h
        unfold fineR at h
        rw [Bool.and_eq_true] at h
        rw [run_ok_n _ _ _ _ h.1, HPL.out]; omega
      have hsn := run_seen pL ⟨0, true, st, q⟩ hq
      clear hbt
      go_wp2_with fail
      refine (span_any w.heap.size st q (.bool false) _ E _ pn capA pL _ HOA.out.lab hr (apart_own hneA) h3 HSA.out.2.2.2.2.2.1 (HT.out.below HSA.out.2.2.2.2.2.2) hst hq (HE.out _ HSA.out.2.2.2.2.2.2)).mono ?_
      rintro e wS ⟨rfl, htf, hgrS⟩
      have HSS := Lib.hid (HSA.out.span htf hgrS)
      clear htf hgrS
      generalize run ⟨0, true, st, q⟩ pL = r at hfine hnext hrn hsn HSS ⊢
      obtain ⟨rn, rok, rst, rq⟩ := r
      have hlt5 := @fin_lt ⟨rn, rok, rst, rq⟩
      simp only at hnext hrn hsn hlt5 HSS
      cases hff : fineR ⟨rn, rok, rst, rq⟩
      · rw [hff] at hfine
        have hkN : k + 1 = N := by
          rcases Nat.lt_or_ge (k + 1) N with h | h
          · have := HBEG.out (k + 1) (by have := HN.out; omega)
            rw [← hfine] at this; cases this
          · omega
        have hPs : Ps.length = k + 1 := by have := HN.out; omega
        have hall : Ps.take (k + 1) = Ps := List.take_of_length_le (by omega)
        rw [hall] at hfine
        have HFN := Lib.hid hfine.symm
        have HPS := Lib.hid hPs
        clear hnext hrn hlt5 hfine hff hall hPs hkN
        simp only [erv]
        go_wp2_with (at_builtin; refine wpList_append_row rfl (.tmp 34) (.tmp 36) 37 rfl 3 i3 (.int .i64 0) 8 Tryd.underlying37 hi3 hy0 hy1 hy2 rfl gc k cc (lens (Ps.take k)) rfl (HSS.out.1.alloc _) _ 1 1 [.int .i64 rn] rfl (OwnV.reads (ownV_lit wS [.int .i64 rn] (by simp [maxLen]))) (one_cell _ rfl) (k + 1) rfl (by omega) (by simp only [maxLen]; omega) ?_)
        intro gC capC wC hgC howC hgrC
        have HSC := Lib.hid (HSS.out.count hgrC howC hgC)
        clear hgC howC hgrC
        go_wp2_with (first | (go_at_call 41; refine (said_invalid E _ (HE.out _ HSC.out.2.2.2.2.2.2)).mono ?_; rintro e w' ⟨rfl, rfl⟩) | (at_builtin; refine wpList_append_row rfl (.tmp 38) (.tmp 41) 37 rfl 3 i3 (.int .i64 0) 8 Tryd.underlying37 hi3 hy0 hy1 hy2 rfl gs k cs (zeros k) rfl (HSC.out.2.1.alloc _) _ 1 1 [.int .i64 1] rfl (OwnV.reads (ownV_lit wC [.int .i64 1] (by simp [maxLen]))) (one_cell _ rfl) (k + 1) rfl (by omega) (by simp only [maxLen]; omega) ?_))
        intro gD capD wD hgD howD hgrD
        have HSD := Lib.hid (HSC.out.said hgrD howD hgD)
        clear hgD howD hgrD
        go_wp2
        refine bodyPost_ret (v := .tuple #[.slice (some ⟨gC, 0, none⟩) (k + 1) capC, .slice (some ⟨gD, 0, none⟩) (k + 1) capD]) (by simp [results, Tryd.results28, go_sem]) rfl ⟨gC, capC, gD, capD, _, _, by rw [HPS.out], ?_, ?_, HSD.out.2.2.2.2.2.2, .inr ⟨HFN.out, rn, k, HPS.out, rfl, rfl⟩⟩
        · rw [HPS.out]; exact HSD.out.1
        · rw [HPS.out]; exact HSD.out.2.1
      · rw [hff] at hfine hnext hrn hlt5
        have hx := hnext rfl
        have hy := hrn rfl
        have hz := hlt5 rfl
        have HX := Lib.hid hx
        have HFN := Lib.hid hfine.symm
        clear hnext hrn hlt5 hfine hx hff
        subst hy
        simp only [erv, if_true]
        go_wp2_with (at_builtin; refine wpList_append_row rfl (.tmp 34) (.tmp 36) 37 rfl 3 i3 (.int .i64 0) 8 Tryd.underlying37 hi3 hy0 hy1 hy2 rfl gc k cc (lens (Ps.take k)) rfl (HSS.out.1.alloc _) _ 1 1 [.int .i64 rn] rfl (OwnV.reads (ownV_lit wS [.int .i64 rn] (by simp [maxLen]))) (one_cell _ rfl) (k + 1) rfl (by omega) (by simp only [maxLen]; omega) ?_)
        intro gC capC wC hgC howC hgrC
        have HSC := Lib.hid (HSS.out.count hgrC howC hgC)
        clear hgC howC hgrC
        go_wp2_with (first | (go_at_call 41; refine (said_nil _).mono ?_; rintro e w' ⟨rfl, rfl⟩) | (at_builtin; refine wpList_append_row rfl (.tmp 38) (.tmp 41) 37 rfl 3 i3 (.int .i64 0) 8 Tryd.underlying37 hi3 hy0 hy1 hy2 rfl gs k cs (zeros k) rfl (HSC.out.2.1.alloc _) _ 1 1 [.int .i64 0] rfl (OwnV.reads (ownV_lit wC [.int .i64 0] (by simp [maxLen]))) (one_cell _ rfl) (k + 1) rfl (by omega) (by simp only [maxLen]; omega) ?_))
        intro gD capD wD hgD howD hgrD
        have HSD := Lib.hid (HSC.out.said hgrD howD hgD)
        clear hgD howD hgrD
        go_wp2
        go_roundw
        case rel =>
          refine ⟨k + 1, gC, capC, gD, capD, rst, rq, by omega, by go_num, rfl, rfl, Lib.hid ?_, hz, hsn, HX, HFN⟩
          rw [HLE.out, zeros_snoc]; exact HSD.out
        case measure => simp [intOf]; omega
    · have hkN : k = N := by omega
      subst hkN
      have hPs : Ps.length = k := HN.out.symm
      have hall : Ps.take k = Ps := List.take_of_length_le (by omega)
      rw [hall] at HST HCF
      have HPS := Lib.hid hPs
      clear hPs hall
      go_wp2
      refine bodyPost_ret (v := .tuple #[.slice (some ⟨gc, 0, none⟩) k cc, .slice (some ⟨gs, 0, none⟩) k cs]) (by simp [results, Tryd.results28, go_sem]) rfl ⟨gc, cc, gs, cs, _, _, by rw [HPS.out], ?_, ?_, HST.out.2.2.2.2.2.2, .inl ⟨HCF.out, rfl, rfl⟩⟩
      · rw [HPS.out]; exact HST.out.1
      · rw [HPS.out]; exact HST.out.2.1
end Go.Proofs.YtoceibpgapjhcaaDoor
