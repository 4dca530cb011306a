/- From the conditions of the rows that list the sentinels besides to what the walks ask; a world for the witness. -/
import Derived.Test.YtoceibpgapjhcaaDoorFrame
import Derived.Test.YtoceibpgapjhcaaDoorSaid
import Derived.Stop.LaidErr
import Derived.Stop.LaidTwo
import Derived.OpenVars
import Derived.Deep.DeepWitnessRowRef
namespace Go.Proofs.YtoceibpgapjhcaaDoor
open Go.ChangeShapes Go.WideShapes Go.ChangeAt Go.RowKit
open Go.Extern.Stop Go.Stop Go.Extern
set_option linter.unusedVariables false

theorem gI : Tryd.prog.globalNamed "loop.example/pub-g01468/pub/bidirule.ErrInvalid" = some 0 := by kernel_rfl
theorem gS : Tryd.prog.globalNamed "loop.example/pub-g01468/pub/bidirule.ErrShortDst" = some 2 := by kernel_rfl
theorem gIType : (Tryd.prog.globals[0]?).map (·.type) = some 54 := by kernel_rfl
theorem gSType : (Tryd.prog.globals[2]?).map (·.type) = some 54 := by kernel_rfl
theorem cells114 : Tryd.prog.cellsOf 114 = 1 := by kernel_rfl
theorem cells9 : Tryd.prog.cellsOf 9 = 1 := by kernel_rfl
theorem star : "*" ++ "errors.errorString" = "*errors.errorString" := by decide
theorem row88 (u : TypeId) (h : Tryd.prog.typeName? 3 u = some "*errors.errorString") : u = 88 :=
  typeName_ptr_named (nm := "errors.errorString") (by rw [star]; kernel_rfl) (by kernel_rfl) (by decide) u (by rw [star]; exact h)

set_option maxRecDepth 100000 in
theorem two_laid {W : World} (h : laidMetH Tryd.prog Rows.fnTransformedRow.laid W) : ∃ E D, Two W E D ∧ TabAt W := by
  rw [MakeChecks.laidMetH_plain _ _ _ (by kernel_rfl)] at h
  obtain ⟨ps, ⟨g0', t0', cs0, f0, p0, q0, hg0', ht0', hv0, hd0, ⟨g1', t1', cs1, f1, p1, q1, hg1', ht1', hv1, hd1, ⟨g2', t2', cs2, f2, p2, q2, hg2', ht2', hv2, hd2, _, e2⟩, e1⟩, e0⟩, hnd, hrows⟩ := h
  obtain rfl := Option.some.inj (gI.symm.trans hg0')
  obtain rfl := Option.some.inj (gTab.symm.trans hg1')
  obtain rfl := Option.some.inj (gS.symm.trans hg2')
  obtain rfl := Option.some.inj (gIType.symm.trans ht0')
  obtain rfl := Option.some.inj (gTabType.symm.trans ht1')
  obtain rfl := Option.some.inj (gSType.symm.trans ht2')
  subst e2
  subst e1
  subst e0
  have hT : TabAt W := tab_var hv1 (tab_rows hd1)
  obtain ⟨l0⟩ := cs0
  obtain ⟨l2⟩ := cs2
  have ok0 : ∀ u v, l0 = [.iface u v] → Value.okWide Tryd.prog W .any 0 u v := fun u v e => by
    subst e
    exact (hrows 0 0 (by simp [MemPlace.row])).2 u v (by simpa using World.var?_cell gI hv0 0)
  have ok2 : ∀ u v, l2 = [.iface u v] → Value.okWide Tryd.prog W .any 0 u v := fun u v e => by
    subst e
    exact (hrows 2 0 (by simp [MemPlace.row])).2 u v (by simpa using World.var?_cell gS hv2 0)
  obtain ⟨a0, s0, rfl, hc0, hs0, hz0, rfl⟩ := errorString_of_trod Tryd.underlying54 row88 Tryd.underlying88 Tryd.underlying114 rfl rfl Tryd.underlying9 cells114 cells9 hd0 ok0
  obtain ⟨a2, s2, rfl, hc2, hs2, hz2, rfl⟩ := errorString_of_trod Tryd.underlying54 row88 Tryd.underlying88 Tryd.underlying114 rfl rfl Tryd.underlying9 cells114 cells9 hd2 ok2
  obtain ⟨c0, t0, hb0⟩ := (hrows a0.block a0.off (by simp [MemPlace.row])).1
  obtain ⟨c2, t2, hb2⟩ := (hrows a2.block a2.off (by simp [MemPlace.row])).1
  refine ⟨a0, a2, ⟨by simpa using World.var?_cell gI hv0 0, by simpa using World.var?_cell gS hv2 0, ?_, ⟨_, _, hb2⟩, ⟨_, _, hb0⟩⟩, hT⟩
  rintro rfl
  simp [MemPlace.row] at hnd

theorem vars_four {H : Type} {enc : TypeId × Value → H} {W : World} {sp : Nat → Bool} {n0 n1 n2 n3 : String} {gs : List (DataW H)} {ps : List MemPlace} (h : DataW.TrodVars enc Tryd.prog W sp [n0, n1, n2, n3] gs ps) : ∃ a b c d, gs = [a, b, c, d] := by
  match gs, h with
  | [], h => exact h.elim
  | [_], ⟨_, _, _, _, _, _, _, _, _, _, h, _⟩ => exact h.elim
  | [_, _], ⟨_, _, _, _, _, _, _, _, _, _, ⟨_, _, _, _, _, _, _, _, _, _, h, _⟩, _⟩ => exact h.elim
  | [_, _, _], ⟨_, _, _, _, _, _, _, _, _, _, ⟨_, _, _, _, _, _, _, _, _, _, ⟨_, _, _, _, _, _, _, _, _, _, h, _⟩, _⟩, _⟩ => exact h.elim
  | [a, b, c, d], _ => exact ⟨a, b, c, d, rfl⟩
  | _ :: _ :: _ :: _ :: _ :: _, ⟨_, _, _, _, _, _, _, _, _, _, ⟨_, _, _, _, _, _, _, _, _, _, ⟨_, _, _, _, _, _, _, _, _, _, ⟨_, _, _, _, _, _, _, _, _, _, h, _⟩, _⟩, _⟩, _⟩ => exact h.elim

end Go.Proofs.YtoceibpgapjhcaaDoor
