/- The law laws.FnTransformedShort returns true for every input: the row, and the card that ties the listed variables. Condition, of the row: the listed variables read as listed. -/
import Derived.Test.YtoceibpgapjhcaaDoorFrame2
import Derived.Test.YtoceibpgapjhcaaDoorLaw8
import Derived.LaidMore
namespace Go.Proofs.YtoceibpgapjhcaaDoor.fnTransformedShort
open Go.Proofs.YtoceibpgapjhcaaDoor
open Go.ChangeShapes Go.WideShapes Go.ChangeAt Go.RowKit
set_option linter.unusedVariables false

set_option maxRecDepth 100000 in
theorem contract (H : Type) (enc : TypeId × Value → H) (W : World) (base : Nat) (args : Array Value) (ds gs : List (DataW H)) (before : List MemPlace)
    (hval : ∀ (j : Nat) t v, Tryd.f15.params[j]? = some t → args[j]? = some v → Value.okWide Tryd.prog W .any base t v)
    (hW : DataW.Whole enc Tryd.prog Tryd.f15.params.toList Rows.fnTransformedShortSpec.vars false W args.toList ds gs before) (hL : laidMetH Tryd.prog Rows.fnTransformedShortRow.laid W) :
    Calls Tryd.prog 15 args W fun e W' => ∃ v, e = .returned v ∧ Rows.fnTransformedShortSpec.post enc Tryd.prog Tryd.f15 false true false false W args v W' := by
  have hW' := hW
  obtain ⟨p, q, hA0, hV, rfl, hfz, hnd⟩ := hW
  have hA : DataW.TrodAll enc Tryd.prog W 0 (fun _ => true) true Tryd.f15.params.toList args.toList ds p := hA0
  rw [Tryd.params15] at hA hval
  obtain ⟨v0, vs0, d0, ds0, p0, q0, hargs, rfl, rfl, h0, r0⟩ := trodAll_cons hA
  obtain ⟨v1, vs1, d1, ds1, p1, q1, rfl, rfl, rfl, h1, r1⟩ := trodAll_cons r0
  obtain ⟨rfl, rfl, rfl⟩ := trodAll_nil r1
  obtain rfl : args = #[v0, v1] := by cases args; simp_all
  obtain ⟨ga, gb, gc, gd, rfl⟩ := vars_four hV
  obtain ⟨a0, len0, cap0, rfl⟩ := okWide_slice Tryd.underlying22 (hval 0 22 v0 rfl rfl)
  obtain ⟨a1, rfl, rfl, rfl, w1⟩ := open_int Tryd.underlying3 (hval 1 3 v1 rfl rfl) h1
  obtain ⟨z0, w0⟩ := open_bytes h0
  obtain ⟨E, D, hTwo, hT⟩ := two_laid hL
  have walk : Calls Tryd.prog 15 #[.slice a0 len0 cap0, .int .i64 a1] W (LawPost W) := by
    by_cases h : 2147483647 < len0
    · exact short_long a0 len0 cap0 a1 W h (len_of w0)
    · have hc : len0 ≤ cap0 ∧ cap0 ≤ maxLen := by
        rcases w0 with ⟨_, rfl, rfl, _⟩ | ⟨_, _, h1, h2, _⟩
        · exact ⟨Nat.le_refl _, by unfold maxLen; omega⟩
        · exact ⟨h1, h2⟩
      exact short_short a0 len0 cap0 a1 _ E D W (lab_of w0) hc.1 hc.2 (by omega) hT hTwo
  refine walk.mono fun e W' ⟨he, bel⟩ => ?_
  subst he
  exact ⟨_, rfl, _, _, _, [], _, _, hW', trodAll_mk1 (shut_bool Tryd.underlying4 _), (trodAll_cons_mk (Below.trod laidOut (by kernel_rfl) (of_decide_eq_true (by kernel_rfl)) h0 bel (places_old h0)) (trodAll_cons_mk (shut_int Tryd.underlying3 w1) trodAll_mk0)), Below.trodVars laidOut bel (by kernel_rfl) hV, bel.frame _, fun h => by cases h⟩

theorem laid_met (os : Os) : laidMetH Tryd.prog Rows.fnTransformedShortRow.laid ((World.doorLaid Tryd.prog 400 os).forCall (fun _ _ => 0) ⟨#[], #[.slice none 0 0, .int .i64 0], []⟩).memory :=
  laidMetH_of_parts3 (fuel := 8) (laidMet_of_run' 8 (by kernel_rfl) (by kernel_rfl)) (by kernel_rfl) (by kernel_rfl)
theorem reads (os : Os) {H : Type} (enc : TypeId × Value → H) : ((DataW.whole enc Tryd.prog ((World.doorLaid Tryd.prog 400 os).forCall (fun _ _ => 0) ⟨#[], #[.slice none 0 0, .int .i64 0], []⟩).memory Tryd.f15.params.toList Rows.fnTransformedShortSpec.vars false (#[.slice none 0 0, .int .i64 0] : Array Value).toList 8).map (·.1)) = some [.nil, .lit (.int .i64 0)] := by kernel_rfl

set_option maxRecDepth 100000 in
theorem lifted (os : Os) (started : os.Started) (H : Type) (enc : TypeId × Value → H) (F : Stop.Interp) :
    ReturnsInHanded {} Tryd.checked os 15 .any ((OpenSpec.ofChange Rows.fnTransformedShortSpec).preRow enc Tryd.prog Tryd.f15 Rows.fnTransformedShortRow.domain false Rows.fnTransformedShortRow.laid) (((OpenSpec.ofChange Rows.fnTransformedShortSpec).at F).post enc Tryd.prog Tryd.f15 false true false false) := by
  obtain ⟨⟨ds0, gs0, places⟩, hx, hx1⟩ := Option.map_eq_some_iff.1 (reads os enc)
  simp only at hx1
  subst hx1
  refine returnsInHanded_of_row (C := Tryd.checked) (s := OpenSpec.ofChange Rows.fnTransformedShortSpec) own started (by kernel_rfl) Tryd.func15
    (witness_row_atRef (enc := enc) (C := Tryd.checked) false (World.doorLaid Tryd.prog 400 os) #[.slice none 0 0, .int .i64 0] rfl (by kernel_rfl) (by kernel_rfl) (by kernel_rfl)
      (OpenSpec.preRow_of_cond 8 hx (by kernel_rfl) (fun k hk => by cases hk) (by kernel_rfl) (laid_met os))) ?_
  intro W base args ds gs before hval hW _ _ _ hL _ _
  exact contract H enc W base args ds gs before hval hW hL

theorem said : Rows.FnTransformedShortSaid :=
  OpenClaim.holds_of_cond 15 Tryd.f15 rfl rfl rfl rfl rfl rfl rfl ⟨rfl, rfl, rfl, rfl, rfl⟩ rfl rfl rfl rfl rfl (by kernel_rfl) Tryd.func15 (by kernel_rfl)
    (of_decide_eq_true (by kernel_rfl)) (by unfold Func.isWrapper; first | (rw [if_pos (by decide +kernel)]; kernel_rfl) | (rw [if_neg (by decide +kernel)]; exact ⟨rfl, rfl⟩))
    (fun os started H enc _ F => by rw [OpenClaim.pre_eq_preRow]; exact lifted os started H enc F)

theorem plain (f : FuncId) (fn : Func) (hf : Tryd.pinned.checked.prog.funcNamed "loop.example/pub-g01468/laws.FnTransformedShort" = some f) (hfn : Tryd.pinned.checked.prog.funcs[f]? = some fn) :
    true = Tryd.pinned.checked.prog.looks [] ∧ ∀ (j : Nat) t, fn.params[j]? = some t → Tryd.pinned.checked.prog.wantsStandIn t = false := by
  obtain rfl := plain_of f fn _ 15 Tryd.f15 (by kernel_rfl) Tryd.func15 hf hfn
  refine ⟨by kernel_rfl, fun j t ht => ?_⟩
  rw [Tryd.params15] at ht
  have hm := Array.mem_of_getElem? ht
  simp at hm
  rcases hm with rfl | rfl
  · exact (show Tryd.prog.wantsStandIn 22 = false by kernel_rfl)
  · exact (show Tryd.prog.wantsStandIn 3 = false by kernel_rfl)

/-- The card. -/
theorem card : Rows.FnTransformedShortCardSaid :=
  Claim7.holds_tied_plain_at .later [] _ _ _ _ said (fun _ h => by cases h) (by kernel_rfl) (fun _ h => by cases h) fnTransformedShort_row_tie rfl ⟨rfl, rfl⟩ (by kernel_rfl) rfl plain (by kernel_rfl)
#print axioms card
end Go.Proofs.YtoceibpgapjhcaaDoor.fnTransformedShort
