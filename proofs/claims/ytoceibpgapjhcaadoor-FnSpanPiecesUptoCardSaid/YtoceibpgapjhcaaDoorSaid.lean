/- What impl.saidOf says of nil and of two of the package's errors; bidirule.New and Reset. -/
import Derived.Test.YtoceibpgapjhcaaDoorSpan
namespace Go.Proofs.YtoceibpgapjhcaaDoor
open Go.RowKit
set_option linter.unusedVariables false

theorem said_nil (w : World) : Calls Tryd.prog 41 #[.nilIface] w fun e w' => e = .returned (.int .i64 0) ∧ w = w' := by
  go_enter Tryd.func41, Tryd.ntmps41
  go_wp2
  go_ret
  exact ⟨rfl, rfl⟩
theorem said_invalid (E : Addr) (w : World) (hE : w.cell? ⟨0, 0, none⟩ = some (.iface 88 (.pointer (some E)))) : Calls Tryd.prog 41 #[.iface 88 (.pointer (some E))] w fun e w' => e = .returned (.int .i64 1) ∧ w = w' := by
  go_enter Tryd.func41, Tryd.ntmps41
  go_wp2_with (go_at_call 50; refine (is_same E _).mono ?_; rintro e w' ⟨rfl, rfl⟩)
  go_ret
  exact ⟨rfl, rfl⟩
/-- What is known of two sentinels. -/
def Two (w : World) (E D : Addr) : Prop := w.cell? ⟨0, 0, none⟩ = some (.iface 88 (.pointer (some E))) ∧ w.cell? ⟨2, 0, none⟩ = some (.iface 88 (.pointer (some D))) ∧ D ≠ E ∧
  (∃ ca ta, w.heap[D.block]? = some (.cells ca ta (0, 0))) ∧ ∃ cb tb, w.heap[E.block]? = some (.cells cb tb (0, 0))
theorem Two.below {w w' : World} {E D : Addr} (h : Two w E D) (hb : Below w.heap.size w w') : Two w' E D := by
  obtain ⟨h1, h2, h3, ⟨ca, ta, h4⟩, cb, tb, h5⟩ := h
  exact ⟨(hb.cell (p := ⟨0, 0, none⟩) (World.block_lt_of_cell? w _ h1)).trans h1, (hb.cell (p := ⟨2, 0, none⟩) (World.block_lt_of_cell? w _ h2)).trans h2, h3,
    ⟨ca, ta, (hb.block _ (lt_of_block h4)).trans h4⟩, cb, tb, (hb.block _ (lt_of_block h5)).trans h5⟩
theorem said_short (E D : Addr) (w : World) (h : Two w E D) : Calls Tryd.prog 41 #[.iface 88 (.pointer (some D))] w fun e w' => e = .returned (.int .i64 2) ∧ w = w' := by
  obtain ⟨hE, hD, hne, ⟨ca, ta, hca⟩, cb, tb, hcb⟩ := h
  have H := Lib.hid (is_other D E ca cb ta tb w hne hca hcb)
  clear hca hcb
  go_enter Tryd.func41, Tryd.ntmps41
  go_wp2_with (first | (go_at_call 50; with_reducible refine (is_same D _).mono ?_; rintro e w' ⟨rfl, rfl⟩) | (go_at_call 50; refine H.out.mono ?_; rintro e w' ⟨rfl, rfl⟩))
  go_ret
  exact ⟨rfl, rfl⟩

theorem new_any (w : World) : Calls Tryd.prog 39 #[] w fun e w' => e = .returned (.pointer (some ⟨w.heap.size, 0, none⟩)) ∧ w' = w.alloc (.cells #[.int .u8 0, .bool false, .int .u16 0] 62) := by
  go_enter Tryd.func39, Tryd.ntmps39
  go_wp2
  go_ret
  exact ⟨rfl, rfl⟩
theorem reset_any (bt st seen : Nat) (hs : Value) (w : World) (htf : Tf w bt hs st seen) : Calls Tryd.prog 43 #[.pointer (some ⟨bt, 0, none⟩)] w fun e w' => e = .returned (.tuple #[]) ∧ Tf w' bt (.bool false) 0 0 ∧ w.grownBy w' (some bt) := by
  have c0 := htf.c0
  have f0 := htf.f0
  have c1 : w.cell? ⟨bt, 1, none⟩ = some hs := by unfold Tf at htf; simp [World.cell?, htf]
  have f1 : w.frozen? ⟨bt, 1, none⟩ = false := by unfold Tf at htf; simp [World.frozen?, htf]
  have c2 := htf.c2
  have f2 := htf.f2
  have HF := Lib.hid htf; clear htf
  go_enter Tryd.func43, Tryd.ntmps43
  go_wp2
  refine bodyPost_end (v := .tuple #[]) (by simp [results, Tryd.results43, go_sem]) rfl ⟨rfl, ?_, ?_⟩
  · exact heap_setCell_same _ (heap_setCell_same _ (heap_setCell_same _ HF.out))
  · exact grown_set (grown_set (grown_set (grown_refl w _) _ _) _ _) _ _
end Go.Proofs.YtoceibpgapjhcaaDoor
