/- What laws.zzFits1 and spec.Begin return at pieces in memory. -/
import Derived.Test.YtoceibpgapjhcaaDoorPcs
import Derived.Test.YtoceibpgapjhcaaDoorSpec2
namespace Go.Proofs.YtoceibpgapjhcaaDoor
open Go.RowKit
set_option linter.unusedVariables false

def FitsPost (w : World) (e : Ending) (w' : World) : Prop := ∃ bb : Bool, e = .returned (.bool bb) ∧ w = w'
theorem fits_any (v : Value) (Ps : List Pc) (w : World) (h : Pcs w v Ps) (hN : Ps.length ≤ 2147483647) : Calls Tryd.prog 27 #[v] w (FitsPost w) := by
  rcases h with ⟨a, cap, rfl, rfl⟩ | ⟨b, off, cap, rfl, h0, h3, h4, h5⟩
  · go_enter Tryd.func27, Tryd.ntmps27
    go_wp2
    refine wp_loop_rounds 1 ?_; rw [rounds_succ]
    go_wp2
    go_ret
    exact ⟨_, rfl, rfl⟩
  · obtain ⟨N, hNN⟩ : ∃ N, N = Ps.length := ⟨_, rfl⟩
    rw [← hNN] at h0 h3 hN ⊢
    have HN := Lib.hid hNN; clear hNN
    have HC := Lib.hid h5; clear h5
    go_enter Tryd.func27, Tryd.ntmps27
    go_wp2
    go_loop [4, 10] (fun _ i => ∃ k : Nat, k ≤ N ∧ i = .int .i64 k) (fun _ i => N - (intOf i).toNat)
    case atStart => exact ⟨0, Nat.zero_le _, rfl⟩
    case round =>
      obtain ⟨k, hk, rfl⟩ := hrel
      by_cases hlt : k < N
      · obtain ⟨p, hp⟩ : ∃ p, Ps[k]? = some p := ⟨_, List.getElem?_eq_getElem (by have := HN.out; omega)⟩
        obtain ⟨hcell, hlab0⟩ := HC.out k p hp
        clear hp hlab0
        obtain ⟨pa, pn, pc, pL⟩ := p
        simp only [Pc.v] at hcell
        by_cases hbig : 2147483647 < pn
        · go_wp2
          go_ret
          exact ⟨_, rfl, rfl⟩
        · go_wp2
          go_round
          case rel => exact ⟨k + 1, by omega, by go_num⟩
          case measure => simp [intOf]; omega
      · go_wp2
        go_ret
        exact ⟨_, rfl, rfl⟩

theorem Pcs.cut {w : World} {b off N cap : Nat} {Ps : List Pc} (hN : N = Ps.length) (hc : N ≤ cap) (hm : cap ≤ maxLen) (h5 : ∀ i p, Ps[i]? = some p → w.cell? ⟨b, off + i, none⟩ = some p.v ∧ Lab w p.v p.L) {k : Nat} (hk : k ≤ N) :
    Pcs w (.slice (some ⟨b, off, none⟩) k cap) (Ps.take k) := by
  have hl : (Ps.take k).length = k := by simp; omega
  by_cases h0 : k = 0
  · subst h0; exact .inl ⟨_, cap, rfl, by simp⟩
  · refine .inr ⟨b, off, cap, by rw [hl], by omega, by omega, hm, fun i p hp => h5 i p ?_⟩
    rw [List.getElem?_take] at hp
    split at hp
    · exact hp
    · cases hp
def BeginPost (w : World) (Ps : List Pc) (e : Ending) (w' : World) : Prop := ∃ bb : Bool, e = .returned (.bool bb) ∧ (bb = true → ∀ j, j < Ps.length → conf (jn (Ps.take j)) = true) ∧ Below w.heap.size w w'

set_option maxHeartbeats 1000000 in
theorem begin_any (v : Value) (Ps : List Pc) (w : World) (h : Pcs w v Ps) (hN : Ps.length ≤ 2147483647) (hsum : (jn Ps).length ≤ 140737488351232) : Calls Tryd.prog 30 #[v] w (BeginPost w Ps) := by
  rcases h with ⟨a, cap, rfl, rfl⟩ | ⟨b, off, cap, rfl, h0, h3, h4, h5⟩
  · go_enter Tryd.func30, Tryd.ntmps30
    go_wp2
    refine wp_loop_rounds 1 ?_; rw [rounds_succ]
    go_wp2
    go_ret
    exact ⟨_, rfl, fun _ j hj => by simp at hj, Below.refl _ _⟩
  · obtain ⟨N, hNN⟩ : ∃ N, N = Ps.length := ⟨_, rfl⟩
    rw [← hNN] at h0 h3 hN ⊢
    have HP : Hid (∀ k, k ≤ N → Pcs w (.slice (some ⟨b, off, none⟩) k cap) (Ps.take k)) := Lib.hid fun k hk => Pcs.cut hNN h3 h4 h5 hk
    have HN := Lib.hid hNN; clear hNN
    have HS := Lib.hid hsum; clear hsum
    clear h5
    unfold maxLen at h4
    go_enter Tryd.func30, Tryd.ntmps30
    go_wp2
    go_loopw [3, 6] (fun _ i wr => ∃ k : Nat, k ≤ N ∧ i = .int .i64 k ∧ Hid (∀ j, j < k → conf (jn (Ps.take j)) = true) ∧ Hid (Below w.heap.size w wr)) (fun _ i _ => N - (intOf i).toNat)
    case atStart => exact ⟨0, Nat.zero_le _, rfl, Lib.hid (fun j hj => by omega), Lib.hid (Below.refl _ _)⟩
    case round =>
      obtain ⟨k, hk, rfl, HJ, HB⟩ := hrel
      by_cases hlt : k < N
      · have hlk : (Ps.take k).length ≤ 2147483647 := by simp; have := HN.out; omega
        have HLK := Lib.hid hlk; clear hlk
        have HJL := Lib.hid (jn_le Ps k)
        go_wp2_with fail
        refine (joined_any _ (Ps.take k) _ ((HP.out k hk).below HB.out) HLK.out (by have := HJL.out; have := HS.out; omega)).mono ?_
        rintro e w1 ⟨g, c, rfl, ho, hb⟩
        have HO := Lib.hid ho
        have HB1 := Lib.hid (HB.out.trans (hb.mono HB.out.size)); clear ho hb
        go_wp2_with fail
        refine (conforms_any _ _ _ (jn (Ps.take k)) _ HO.out.lab (by have := HJL.out; have := HS.out; omega)).mono ?_
        rintro e w2 ⟨rfl, hb⟩
        have HB2 := Lib.hid (HB1.out.trans (hb.mono HB1.out.size)); clear hb
        cases ec : conf (jn (Ps.take k))
        · clear ec
          go_wp2
          go_ret
          exact ⟨false, rfl, (fun h => by cases h), HB2.out⟩
        · have HEC := Lib.hid ec; clear ec
          go_wp2
          go_roundw
          case rel =>
            refine ⟨k + 1, by omega, by go_num, Lib.hid fun j hj => ?_, HB2⟩
            rcases Nat.lt_or_eq_of_le (Nat.le_of_lt_succ hj) with h | rfl
            · exact HJ.out j h
            · exact HEC.out
          case measure => simp [intOf]; omega
      · have hkN : k = N := by omega
        subst hkN
        go_wp2
        go_ret
        exact ⟨true, rfl, (fun _ j hj => HJ.out j (by have := HN.out; omega)), HB.out⟩
end Go.Proofs.YtoceibpgapjhcaaDoor
