/- spec.SameBytes says yes of two slices that read as the same numbers. -/
import Derived.Test.YtoceibpgapjhcaaDoorSpec
import Derived.BigQuiet
import Derived.Deep.QuietTactic
namespace Go.Proofs.YtoceibpgapjhcaaDoor
open Go.RowKit
set_option linter.unusedVariables false

theorem same_any (v u : Value) (L : List Int) (w : World) (h : Lab w v L) (h' : Lab w u L) (hn : L.length ≤ 140737488351232) :
    Calls Tryd.prog 32 #[v, u] w fun e w' => e = .returned (.bool true) ∧ ∃ q, w' = w.drewN q := by
  obtain ⟨hb, ⟨a, cap, rfl, rfl, _⟩ | ⟨b, off, cap, rfl, h0, hc⟩⟩ := h
  · obtain ⟨_, ⟨a', cap', rfl, _, _⟩ | ⟨b', off', cap', rfl, h0', hc'⟩⟩ := h'
    · go_enter Tryd.func32, Tryd.ntmps32
      go_wp2
      refine wp_loop_rounds 1 ?_; rw [rounds_succ]
      go_wp2
      go_ret
      exact ⟨rfl, 0, rfl⟩
    · simp at h0'
  · obtain ⟨_, ⟨a', cap', rfl, rfl, _⟩ | ⟨b', off', cap', rfl, h0', hc'⟩⟩ := h'
    · simp at h0
    · obtain ⟨n, hnn⟩ : ∃ n, n = L.length := ⟨_, rfl⟩
      rw [← hnn] at hc hc' h0 h0' hn ⊢
      have HL := Lib.hid hnn; clear hnn
      have HK := Lib.hid hc; clear hc
      have HK' := Lib.hid hc'; clear hc'
      have HB := Lib.hid hb; clear hb
      go_enter Tryd.func32, Tryd.ntmps32
      go_wp2
      go_loopw [5, 13] (fun _ i w' => ∃ k q : Nat, k ≤ n ∧ i = .int .i64 k ∧ w' = w.drewN q) (fun _ i _ => n - (intOf i).toNat)
      case atStart => exact ⟨0, 0, Nat.zero_le _, rfl, rfl⟩
      case round =>
        obtain ⟨k, q, hk, rfl, rfl⟩ := hrel
        by_cases hlt : k < n
        · have hcell := HK.out k hlt
          have hcell' := HK'.out k hlt
          obtain ⟨c, hcd⟩ : ∃ c, c = L[k]?.getD 0 := ⟨_, rfl⟩
          rw [← hcd] at hcell hcell'
          clear hcd
          go_wp2_with fail
          go_quiet (fail)
          go_wp2
          go_roundw
          case rel => exact ⟨k + 1, _, by omega, by go_num, rfl⟩
          case measure => simp [intOf]; omega
        · go_wp2
          go_ret
          exact ⟨rfl, q, rfl⟩
end Go.Proofs.YtoceibpgapjhcaaDoor
