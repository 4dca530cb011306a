/- Pieces in memory: a slice of slices of bytes; what spec.Joined makes of them. Condition: the pieces' bytes together are at most 140737488351232. -/
import Derived.Test.YtoceibpgapjhcaaDoorSpan
import Derived.LoopTactic
namespace Go.Proofs.YtoceibpgapjhcaaDoor
open Go.RowKit
set_option linter.unusedVariables false

/-- A piece: where it lies, its length, its capacity, the numbers it reads as. -/
structure Pc where
  a : Option Addr
  n : Nat
  cap : Nat
  L : List Int
def Pc.v (p : Pc) : Value := .slice p.a p.n p.cap
def jn (Ps : List Pc) : List Int := (Ps.map (·.L)).flatten
def Pcs (w : World) (v : Value) (Ps : List Pc) : Prop :=
  (∃ a cap, v = .slice a 0 cap ∧ Ps = []) ∨
  ∃ b off cap, v = .slice (some ⟨b, off, none⟩) Ps.length cap ∧ 0 < Ps.length ∧ Ps.length ≤ cap ∧ cap ≤ maxLen ∧ ∀ i p, Ps[i]? = some p → w.cell? ⟨b, off + i, none⟩ = some p.v ∧ Lab w p.v p.L
theorem Pcs.below {w w' : World} {v : Value} {Ps : List Pc} (h : Pcs w v Ps) (hb : Below w.heap.size w w') : Pcs w' v Ps := by
  rcases h with h | ⟨b, off, cap, h1, h2, h3, h4, h5⟩
  · exact .inl h
  · exact .inr ⟨b, off, cap, h1, h2, h3, h4, fun i p hp => ⟨(hb.cell (p := ⟨b, off + i, none⟩) (World.block_lt_of_cell? w _ (h5 i p hp).1)).trans (h5 i p hp).1, (h5 i p hp).2.below hb⟩⟩
theorem jn_snoc (Ps : List Pc) (k : Nat) (p : Pc) (h : Ps[k]? = some p) : jn (Ps.take (k + 1)) = jn (Ps.take k) ++ p.L := by
  obtain ⟨hk, hp⟩ := List.getElem?_eq_some_iff.1 h
  unfold jn
  rw [List.take_succ_eq_append_getElem hk, hp]; simp
theorem jn_le (Ps : List Pc) (k : Nat) : (jn (Ps.take k)).length ≤ (jn Ps).length := by
  have h : jn Ps = jn (Ps.take k) ++ jn (Ps.drop k) := by
    unfold jn
    rw [← List.flatten_append, ← List.map_append, List.take_append_drop]
  rw [h, List.length_append]; omega

def JoinPost (w : World) (Ps : List Pc) (e : Ending) (w' : World) : Prop :=
  ∃ g cap, e = .returned (.slice (some ⟨g, 0, none⟩) (jn Ps).length cap) ∧ Own w' 5 g (jn Ps).length cap (jn Ps) ∧ Below w.heap.size w w'
theorem joined_any (v : Value) (Ps : List Pc) (w : World) (h : Pcs w v Ps) (hN : Ps.length ≤ 2147483647) (hsum : (jn Ps).length ≤ 140737488351232) : Calls Tryd.prog 29 #[v] w (JoinPost w Ps) := by
  obtain ⟨i0, hi, hz0, hz1, hz2⟩ := info_parts info5
  rcases h with ⟨a, cap, rfl, rfl⟩ | ⟨b, off, cap, rfl, h0, h3, h4, h5⟩
  · have HA : Hid (∀ o, Below w.heap.size w (w.alloc o)) := Lib.hid fun o => (Below.refl _ _).alloc (Nat.le_refl _) o
    go_enter Tryd.func29, Tryd.ntmps29
    go_wp2
    refine wp_loop_rounds 1 ?_; rw [rounds_succ]
    go_wp2
    go_ret
    exact ⟨_, 0, rfl, own_empty w, HA.out _⟩
  · have HA : Hid (∀ o, Below w.heap.size w (w.alloc o)) := Lib.hid fun o => (Below.refl _ _).alloc (Nat.le_refl _) o
    obtain ⟨N, hNN⟩ : ∃ N, N = Ps.length := ⟨_, rfl⟩
    rw [← hNN] at h0 h3 hN ⊢
    have HN := Lib.hid hNN; clear hNN
    have HS := Lib.hid hsum; clear hsum
    have HC := Lib.hid h5; clear h5
    go_enter Tryd.func29, Tryd.ntmps29
    go_wp2
    go_loopw [3, 5, 9] (fun out _ i wr => ∃ k g m c : Nat, k ≤ N ∧ i = .int .i64 k ∧ out = .slice (some ⟨g, 0, none⟩) m c ∧ Hid (m = (jn (Ps.take k)).length) ∧ Hid (Own wr 5 g m c (jn (Ps.take k))) ∧ w.heap.size ≤ g ∧ Hid (Below w.heap.size w wr)) (fun _ _ i _ => N - (intOf i).toNat)
    case atStart => exact ⟨0, w.heap.size, 0, 0, Nat.zero_le _, rfl, rfl, Lib.hid rfl, Lib.hid (own_empty w), Nat.le_refl _, Lib.hid (HA.out _)⟩
    case round =>
      obtain ⟨k, g, m, c, hk, rfl, rfl, HM, HO, hg, HB⟩ := hrel
      by_cases hlt : k < N
      · obtain ⟨p, hp⟩ : ∃ p, Ps[k]? = some p := ⟨_, List.getElem?_eq_getElem (by have := HN.out; omega)⟩
        obtain ⟨hcell0, hlab0⟩ := HC.out k p hp
        have hcell := (HB.out.cell (p := ⟨b, off + k, none⟩) (World.block_lt_of_cell? w _ hcell0)).trans hcell0
        have HL := Lib.hid (hlab0.below HB.out)
        have HJ := Lib.hid (jn_snoc Ps k p hp)
        have HJL := Lib.hid (jn_le Ps (k + 1))
        clear hcell0 hlab0 hp
        obtain ⟨pa, pn, pc, pL⟩ := p
        have hplen : pL.length = pn := HL.out.len
        have hr : m + pn ≤ 140737488351232 := by
          have h1 := HJ.out; have h2 := HJL.out; have h3 := HS.out; have h4 := HM.out
          rw [h1, List.length_append] at h2
          simp only at h2
          omega
        have HPL := Lib.hid hplen; clear hplen
        simp only [Pc.v] at hcell HL
        simp only at HJ
        go_wp2_with (at_builtin; refine wpList_append_lab rfl (.tmp 13) (.tmp 14) 22 rfl 5 i0 Tryd.underlying22 hi hz0 hz1 hz2 g m c (jn (Ps.take k)) rfl HO.out pa pn pc pL rfl HL.out (m + pn) rfl (by omega) ?_)
        intro g' cap' w1 hg' hown hgr
        have HO1 := Lib.hid hown
        have HB1 := Lib.hid (HB.out.trans (below_grown hgr hg HB.out.size))
        have hgg : w.heap.size ≤ g' := by have := HB.out.size; omega
        clear hown hgr hg'
        go_wp2
        go_roundw
        case rel =>
          refine ⟨k + 1, g', m + pn, cap', by omega, by go_num, rfl, Lib.hid ?_, Lib.hid ?_, hgg, HB1⟩
          · rw [HJ.out, List.length_append, ← HM.out, HPL.out]
          · rw [HJ.out]; exact HO1.out
        case measure => simp [intOf]; omega
      · have hkN : k = N := by omega
        subst hkN
        go_wp2
        go_ret
        have hall : Ps.take k = Ps := List.take_of_length_le (by have := HN.out; omega)
        have hm := HM.out
        have ho := HO.out
        rw [hall] at hm ho
        subst hm
        exact ⟨g, c, rfl, ho, HB.out⟩
end Go.Proofs.YtoceibpgapjhcaaDoor
