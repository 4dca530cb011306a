/- The law laws.FnSpanPieces returns true where the pieces together are small, where the transitions are as listed and the sentinel is one. -/
import Derived.Test.YtoceibpgapjhcaaDoorPcs4
namespace Go.Proofs.YtoceibpgapjhcaaDoor
open Go.RowKit
set_option linter.unusedVariables false

def FirstPcs (w : World) (e : Ending) (w' : World) : Prop := ∃ gc cc gs cs, e = .returned (.tuple #[.slice (some ⟨gc, 0, none⟩) 1 cc, .slice (some ⟨gs, 0, none⟩) 1 cs]) ∧ w'.cell? ⟨gc, 0, none⟩ = some (.int .i64 1) ∧ w'.cell? ⟨gs, 0, none⟩ = some (.int .i64 0) ∧ Below w.heap.size w w'
theorem first_pcs (E : Addr) (w : World) (hT : TabAt w) (hE : w.cell? ⟨0, 0, none⟩ = some (.iface 88 (.pointer (some E)))) (o1 o2 : Obj) (h1 : o1 = .cells #[.int .u8 1] 5) (h2 : o2 = .cells #[.slice (some ⟨w.heap.size, 0, none⟩) 1 1] 22) :
    Calls Tryd.prog 28 #[.slice (some ⟨w.heap.size + 1, 0, none⟩) 1 1] ((w.alloc o1).alloc o2) (FirstPcs w) := by
  subst h1 h2
  have hs : (w.alloc (.cells #[.int .u8 1] 5)).heap.size = w.heap.size + 1 := Array.size_push _
  have hb : Below w.heap.size w ((w.alloc (.cells #[.int .u8 1] 5)).alloc (.cells #[.slice (some ⟨w.heap.size, 0, none⟩) 1 1] 22)) := ((Below.refl _ _).alloc (Nat.le_refl _) _).alloc (by rw [hs]; omega) _
  have o1 : Own ((w.alloc (.cells #[.int .u8 1] 5)).alloc (.cells #[.slice (some ⟨w.heap.size, 0, none⟩) 1 1] 22)) 5 w.heap.size 1 1 [1] := (own_one w 1 (by omega) (by omega)).alloc _
  have hn := heap_alloc_new (w.alloc (.cells #[.int .u8 1] 5)) (.cells #[.slice (some ⟨w.heap.size, 0, none⟩) 1 1] 22)
  rw [hs] at hn
  have h := spanAll_some (w.heap.size + 1) 0 1 [⟨some ⟨w.heap.size, 0, none⟩, 1, 1, [1]⟩] E _ (by simp) (fun i p hp => by
      match i, hp with
      | 0, hp =>
        simp only [List.getElem?_cons_zero, Option.some.injEq] at hp
        subst hp
        refine ⟨?_, o1.lab⟩
        unfold World.cell?
        rw [hn]; rfl
      | i + 1, hp => simp at hp) (by simp) (by simp [jn]) (by intro c hc; simp [jn] at hc; subst hc; omega) (fun j hj => by
      have : j = 0 := by simpa using hj
      subst this; rfl) (hT.below hb) ((hb.cell (p := ⟨0, 0, none⟩) (World.block_lt_of_cell? w _ hE)).trans hE)
  refine h.mono ?_
  rintro e w' ⟨gc, cc, gs, cs, ns, ss, rfl, ho, ho2, hb2, hx | ⟨hx, _⟩⟩
  · obtain ⟨_, rfl, rfl⟩ := hx
    exact ⟨gc, cc, gs, cs, rfl, ho.cells 0 _ rfl, ho2.cells 0 _ rfl, hb.trans (hb2.mono hb.size)⟩
  · exact absurd (show conf [1] = false from hx) (by decide)
theorem begin_none (Ps : List Pc) (h : Ps = []) : conf (jn Ps) = true := by subst h; rfl

set_option maxRecDepth 100000 in
set_option maxHeartbeats 4000000 in
theorem pieces_none (a : Option Addr) (cap : Nat) (E : Addr) (w : World) (hT : TabAt w) (hE : w.cell? ⟨0, 0, none⟩ = some (.iface 88 (.pointer (some E)))) :
    Calls Tryd.prog 13 #[.slice a 0 cap] w (LawPost w) := by
  have HP : Hid (∀ W, Pcs W (.slice a 0 cap) []) := Lib.hid fun W => .inl ⟨a, cap, rfl, rfl⟩
  have HF := Lib.hid (first_pcs E w hT hE)
  clear hT hE
  go_enter Tryd.func13, Tryd.ntmps13
  go_wp2_with fail
  refine (fits_any _ [] _ (HP.out _) (by simp)).mono ?_
  rintro e w' ⟨bb, rfl, rfl⟩
  cases bb
  · go_wp2
    go_ret
    exact ⟨rfl, Below.refl _ _⟩
  go_wp2_with fail
  refine (HF.out _ _ rfl rfl).mono ?_
  rintro e w1 ⟨gc, cc, gs, cs, rfl, k0, k1, hb⟩
  have HB1 := Lib.hid hb; clear hb HF
  go_wp2_with fail
  refine (joined_any _ [] _ (HP.out _) (by simp) (by simp [jn])).mono ?_
  rintro e w2 ⟨g, c, rfl, ho, hb⟩
  have HO := Lib.hid ho
  have HB2 := Lib.hid (HB1.out.trans (hb.mono HB1.out.size)); clear hb ho k0 k1
  go_wp2_with fail
  refine (isLabel_any _ (jn []) _ HO.out.lab (by simp [jn])).mono ?_
  rintro e w' ⟨rfl, rfl⟩
  cases e1 : isLab (jn [])
  · go_wp2
    go_ret
    exact ⟨rfl, HB2.out⟩
  · go_wp2
    go_ret
    exact ⟨rfl, HB2.out⟩

theorem lens_at (Ps : List Pc) (K k : Nat) (h : k < K) (hK : K ≤ Ps.length) (tl : List Value) (p : Pc) (hp : Ps[k]? = some p) : (lens (Ps.take K) ++ tl)[k]? = some (.int .i64 p.n) := by
  unfold lens
  rw [List.getElem?_append_left (by simp; omega), List.getElem?_map, List.getElem?_take, if_pos h, hp]; rfl
theorem zeros_at (K k : Nat) (h : k < K) (tl : List Value) : (zeros K ++ tl)[k]? = some (.int .i64 0) := by
  unfold zeros
  rw [List.getElem?_append_left (by simpa using h), List.getElem?_replicate, if_pos h]

set_option maxRecDepth 100000 in
set_option maxHeartbeats 8000000 in
theorem pieces_some (b off cap : Nat) (Ps : List Pc) (E : Addr) (w : World) (h0 : 0 < Ps.length) (hc : Ps.length ≤ cap) (hm : cap ≤ maxLen) (h5 : ∀ i p, Ps[i]? = some p → w.cell? ⟨b, off + i, none⟩ = some p.v ∧ Lab w p.v p.L)
    (hN : Ps.length ≤ 2147483647) (hsum : (jn Ps).length ≤ 140737488351232) (hby : Bytes' (jn Ps)) (hT : TabAt w) (hE : w.cell? ⟨0, 0, none⟩ = some (.iface 88 (.pointer (some E)))) :
    Calls Tryd.prog 13 #[.slice (some ⟨b, off, none⟩) Ps.length cap] w (LawPost w) := by
  have HP : Hid (Pcs w (.slice (some ⟨b, off, none⟩) Ps.length cap) Ps) := Lib.hid (.inr ⟨b, off, cap, rfl, h0, hc, hm, h5⟩)
  have HF := Lib.hid (first_pcs E w hT hE)
  have HSA : Hid (∀ W, Below w.heap.size w W → Ps.length ≤ 1000 → (∀ j, j < Ps.length → conf (jn (Ps.take j)) = true) → Calls Tryd.prog 28 #[.slice (some ⟨b, off, none⟩) Ps.length cap] W (SpanAllPost W Ps)) := Lib.hid fun W hb hn hbeg =>
    spanAll_some b off cap Ps E W h0 (fun i p hp => ⟨(hb.cell (p := ⟨b, off + i, none⟩) (World.block_lt_of_cell? w _ (h5 i p hp).1)).trans (h5 i p hp).1, (h5 i p hp).2.below hb⟩) hn hsum hby hbeg (hT.below hb) ((hb.cell (p := ⟨0, 0, none⟩) (World.block_lt_of_cell? w _ hE)).trans hE)
  clear hT hE
  have HCL : Hid (∀ W, Below w.heap.size w W → ∀ k, k < Ps.length → ∃ p, Ps[k]? = some p ∧ W.cell? ⟨b, off + k, none⟩ = some (.slice p.a p.n p.cap)) := Lib.hid fun W hb k hk => by
    obtain ⟨p, hp⟩ : ∃ p, Ps[k]? = some p := ⟨_, List.getElem?_eq_getElem hk⟩
    exact ⟨p, hp, (hb.cell (p := ⟨b, off + k, none⟩) (World.block_lt_of_cell? w _ (h5 k p hp).1)).trans (h5 k p hp).1⟩
  clear h5 hm hc hby
  have HS := Lib.hid hsum; clear hsum
  obtain ⟨N, hNN⟩ : ∃ N, N = Ps.length := ⟨_, rfl⟩
  rw [← hNN] at h0 hN HP HSA HCL ⊢
  have HN := Lib.hid hNN; clear hNN
  go_enter Tryd.func13, Tryd.ntmps13
  go_wp2_with fail
  refine (fits_any _ Ps _ HP.out (by rw [← HN.out]; omega)).mono ?_
  rintro e w' ⟨bb, rfl, rfl⟩
  cases bb
  · go_wp2
    go_ret
    exact ⟨rfl, Below.refl _ _⟩
  go_wp2_with fail
  refine (HF.out _ _ rfl rfl).mono ?_
  rintro e w1 ⟨gc, cc, gs, cs, rfl, k0, k1, hb⟩
  have HB1 := Lib.hid hb; clear hb HF
  go_wp2_with fail
  refine (joined_any _ Ps _ (HP.out.below HB1.out) (by rw [← HN.out]; omega) HS.out).mono ?_
  rintro e w2 ⟨g, c, rfl, ho, hb⟩
  have HO := Lib.hid ho
  have HB2 := Lib.hid (HB1.out.trans (hb.mono HB1.out.size)); clear hb ho k0 k1
  obtain ⟨m, hm⟩ : ∃ m, m = (jn Ps).length := ⟨_, rfl⟩
  rw [← hm] at HO ⊢
  have HM := Lib.hid hm; clear hm
  go_wp2_with fail
  refine (isLabel_any _ (jn Ps) _ HO.out.lab (by have := HS.out; omega)).mono ?_
  rintro e w' ⟨rfl, rfl⟩
  cases e1 : isLab (jn Ps)
  · go_wp2
    go_ret
    exact ⟨rfl, HB2.out⟩
  clear e1
  have hN0 : ((N : Int) == 0) = false := by simp; omega
  by_cases hN1 : 1000 < N
  · go_wp2
    go_ret
    exact ⟨rfl, HB2.out⟩
  by_cases hm1 : 1000000 < m
  · go_wp2
    go_ret
    exact ⟨rfl, HB2.out⟩
  go_wp2_with fail
  refine (begin_any _ Ps _ (HP.out.below HB2.out) (by rw [← HN.out]; omega) HS.out).mono ?_
  rintro e w3 ⟨bb, rfl, hbeg, hb⟩
  have HB3 := Lib.hid (HB2.out.trans (hb.mono HB2.out.size))
  have HO3 := Lib.hid (HO.out.below hb); clear hb
  have HBEG := Lib.hid hbeg; clear hbeg
  cases bb
  · go_wp2
    go_ret
    exact ⟨rfl, HB3.out⟩
  go_wp2_with fail
  refine (HSA.out _ HB3.out (by omega) (by rw [HN.out]; exact HBEG.out (by trivial))).mono ?_
  rintro e w4 ⟨gc, cc, gs, cs, ns, ss, rfl, hon, hos, hb, hcase⟩
  have HB4 := Lib.hid (HB3.out.trans (hb.mono HB3.out.size))
  have HO4 := Lib.hid (HO3.out.below hb); clear hb
  have HON := Lib.hid hon
  have HOS := Lib.hid hos; clear hon hos
  rw [← HN.out] at HON HOS ⊢
  rcases hcase with ⟨hcf, rfl, rfl⟩ | ⟨hcf, rn, K, hK, rfl, rfl⟩
  · have HCF := Lib.hid hcf; clear hcf
    go_wp2_with fail
    go_loop [7, 8, 9, 72] (fun f _ _ i => ∃ k : Nat, k ≤ N ∧ i = .int .i64 k ∧ f = .bool true) (fun _ _ _ i => N - (intOf i).toNat)
    case atStart => exact ⟨0, Nat.zero_le _, rfl, rfl⟩
    case round =>
      obtain ⟨k, hk, rfl, rfl⟩ := hrel
      by_cases hlt : k < N
      · obtain ⟨p, hp, hcell⟩ := HCL.out _ HB4.out k hlt
        have hn := HON.out.cells k (.int .i64 p.n) (by simp [lens, hp])
        have hs := HOS.out.cells k (.int .i64 0) (by rw [← HN.out]; simp [zeros, hlt])
        clear hp
        obtain ⟨pa, pn, pc, pL⟩ := p
        simp only at hn hcell
        go_wp2
        go_round
        case rel => exact ⟨k + 1, by omega, by go_num, rfl⟩
        case measure => simp [intOf]; omega
      · go_wp2_with (go_at_call 24; refine (conforms_any _ _ _ (jn Ps) _ HO4.out.lab (by omega)).mono ?_; rintro e w5 ⟨rfl, hb⟩; have HB5 := Lib.hid (HB4.out.trans (hb.mono HB4.out.size)); clear hb; rw [HCF.out])
        go_ret
        exact ⟨rfl, HB5.out⟩
  · have HCF := Lib.hid hcf; clear hcf
    obtain rfl : N = K + 1 := HN.out.trans hK
    clear hK
    have hlast := HOS.out.cells K (.int .i64 1) (by rw [List.getElem?_append_right (by simp [zeros])]; simp [zeros])
    have hlK : (lens (Ps.take K)).length = K := by have := HN.out; simp [lens]; omega
    have hlastn := HON.out.cells K (.int .i64 rn) (by rw [List.getElem?_append_right (by omega), hlK]; simp)
    clear hlK
    go_wp2_with fail
    go_loop [7, 8, 9, 72] (fun f _ _ i => ∃ k : Nat, k ≤ K + 1 ∧ i = .int .i64 k ∧ f = .bool (decide (k ≤ K))) (fun _ _ _ i => K + 1 - (intOf i).toNat)
    case atStart => exact ⟨0, Nat.zero_le _, rfl, rfl⟩
    case round =>
      obtain ⟨k, hk, rfl, rfl⟩ := hrel
      by_cases hlt : k < K + 1
      · obtain ⟨p, hp, hcell⟩ := HCL.out _ HB4.out k hlt
        by_cases hltK : k < K
        · have hn := HON.out.cells k (.int .i64 p.n) (lens_at Ps K k hltK (by have := HN.out; omega) _ p hp)
          have hs := HOS.out.cells k (.int .i64 0) (zeros_at K k hltK _)
          clear hp
          obtain ⟨pa, pn, pc, pL⟩ := p
          simp only at hn hcell
          have hd : decide (k ≤ K) = true := decide_eq_true (by omega)
          rw [hd]
          clear hd
          go_wp2
          go_round
          case rel => exact ⟨k + 1, by omega, by go_num, by congr 1; exact (decide_eq_true (by omega)).symm⟩
          case measure => simp [intOf]; omega
        · obtain rfl : k = K := by omega
          clear hp
          obtain ⟨pa, pn, pc, pL⟩ := p
          simp only at hcell
          have hd : decide (k ≤ k) = true := decide_eq_true (by omega)
          rw [hd]
          clear hd
          by_cases heq : (rn : Int) = pn
          · go_wp2
            go_round
            case rel => exact ⟨k + 1, by omega, by go_num, by congr 1; exact (decide_eq_false (by omega)).symm⟩
            case measure => simp [intOf]
          · go_wp2
            go_round
            case rel => exact ⟨k + 1, by omega, by go_num, by congr 1; exact (decide_eq_false (by omega)).symm⟩
            case measure => simp [intOf]
      · have hd : decide (k ≤ K) = false := decide_eq_false (by omega)
        rw [hd]
        clear hd
        go_wp2_with (go_at_call 24; refine (conforms_any _ _ _ (jn Ps) _ HO4.out.lab (by omega)).mono ?_; rintro e w5 ⟨rfl, hb⟩; have hl5 := (hb.cell (p := ⟨gs, K, none⟩) (World.block_lt_of_cell? _ _ hlast)).trans hlast; have HB5 := Lib.hid (HB4.out.trans (hb.mono HB4.out.size)); clear hb; rw [HCF.out])
        go_ret
        exact ⟨rfl, HB5.out⟩
end Go.Proofs.YtoceibpgapjhcaaDoor
