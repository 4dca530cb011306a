/- The law laws.FnSpanPieces returns true for every input of bulk at most 1048576: the row, and the card that ties the listed variables. Condition, of the row: the listed variables read as listed. -/
import Derived.Test.YtoceibpgapjhcaaDoorFrame3
import Derived.Test.YtoceibpgapjhcaaDoorLaw9
import Derived.LaidMore
namespace Go.Proofs.YtoceibpgapjhcaaDoor.fnSpanPieces
open Go.Proofs.YtoceibpgapjhcaaDoor
open Go.ChangeShapes Go.WideShapes Go.ChangeAt Go.RowKit
set_option linter.unusedVariables false

set_option maxRecDepth 100000 in
theorem contract (H : Type) (enc : TypeId × Value → H) (W : World) (base : Nat) (args : Array Value) (ds gs : List (DataW H)) (before : List MemPlace)
    (hval : ∀ (j : Nat) t v, Tryd.f13.params[j]? = some t → args[j]? = some v → Value.okWide Tryd.prog W .any base t v)
    (hW : DataW.Whole enc Tryd.prog Tryd.f13.params.toList Rows.fnSpanPiecesSpec.vars false W args.toList ds gs before) (hcond : Rows.uptoSmall H (ds ++ gs) = true) (hL : laidMetH Tryd.prog Rows.fnSpanPiecesUptoRow.laid W) :
    Calls Tryd.prog 13 args W fun e W' => ∃ v, e = .returned v ∧ Rows.fnSpanPiecesSpec.post enc Tryd.prog Tryd.f13 false true false false W args v W' := by
  have hW' := hW
  obtain ⟨p, q, hA0, hV, rfl, hfz, hnd⟩ := hW
  have hA : DataW.TrodAll enc Tryd.prog W 0 (fun _ => true) true Tryd.f13.params.toList args.toList ds p := hA0
  rw [Tryd.params13] at hA hval
  obtain ⟨v0, vs0, d0, ds0, p0, q0, hargs, rfl, rfl, h0, r0⟩ := trodAll_cons hA
  obtain ⟨rfl, rfl, rfl⟩ := trodAll_nil r0
  obtain rfl : args = #[v0] := by cases args; simp_all
  obtain ⟨ga, gb, gc, gd, rfl⟩ := vars_four hV
  obtain ⟨a0, len0, cap0, rfl⟩ := okWide_slice Tryd.underlying35 (hval 0 35 v0 rfl rfl)
  obtain ⟨E, D, hTwo, hT⟩ := two_laid hL
  have hbulk : Rows.uptoBulk d0 ≤ 1048576 := by
    have := of_decide_eq_true hcond
    simp only [List.cons_append, List.nil_append, Rows.uptoBulkAll] at this
    omega
  have walk : Calls Tryd.prog 13 #[.slice a0 len0 cap0] W (LawPost W) := by
    rcases open_pieces h0 with ⟨rfl, rfl, rfl⟩ | ⟨x, f, rfl, hl, hm, hcl, hsum⟩
    · exact pieces_none none 0 E W hT hTwo.1
    · by_cases hz : len0 = 0
      · subst hz; exact pieces_none _ _ E W hT hTwo.1
      · obtain ⟨b, off, spot⟩ := x
        have hc0 := (hcl 0 (by omega)).1
        have hspot : spot = none := by simpa [Addr.add] using World.cell?_spot hc0
        subst hspot
        have hlen : ((List.range len0).map f).length = len0 := by simp
        have h5 : ∀ i p, ((List.range len0).map f)[i]? = some p → W.cell? ⟨b, off + i, none⟩ = some p.v ∧ Lab W p.v p.L := by
          intro i p hp
          rw [List.getElem?_map, Option.map_eq_some_iff] at hp
          obtain ⟨k, hk, rfl⟩ := hp
          obtain ⟨hi, hk⟩ := List.getElem?_eq_some_iff.1 hk
          rw [List.getElem_range] at hk
          subst hk
          have := hcl i (by simpa using hi)
          have e : (⟨b, off, none⟩ : Addr).add i = ⟨b, off + i, none⟩ := by unfold Addr.add; split <;> simp_all
          rw [e] at this
          exact this
        have h := pieces_some b off cap0 ((List.range len0).map f) E W (by omega) (by omega) hm h5 (by omega) (by omega) (fun c hc => by
          unfold jn at hc
          obtain ⟨l, hl1, hl2⟩ := List.mem_flatten.1 hc
          obtain ⟨p, hp, rfl⟩ := List.mem_map.1 hl1
          obtain ⟨i, hi⟩ := List.mem_iff_getElem?.1 hp
          exact (h5 i p hi).2.1 c hl2) hT hTwo.1
        rw [hlen] at h
        exact h
  refine walk.mono fun e W' ⟨he, bel⟩ => ?_
  subst he
  exact ⟨_, rfl, _, _, _, [], _, _, hW', trodAll_mk1 (shut_bool Tryd.underlying4 _), (trodAll_cons_mk (Below.trod laidOut (by kernel_rfl) (of_decide_eq_true (by kernel_rfl)) h0 bel (places_old h0)) trodAll_mk0), Below.trodVars laidOut bel (by kernel_rfl) hV, bel.frame _, fun h => by cases h⟩

theorem laid_met (os : Os) : laidMetH Tryd.prog Rows.fnSpanPiecesUptoRow.laid ((World.doorLaid Tryd.prog 400 os).forCall (fun _ _ => 0) ⟨#[], #[.slice none 0 0], []⟩).memory :=
  laidMetH_of_parts3 (fuel := 8) (laidMet_of_run' 8 (by kernel_rfl) (by kernel_rfl)) (by kernel_rfl) (by kernel_rfl)
theorem reads (os : Os) {H : Type} (enc : TypeId × Value → H) : ((DataW.whole enc Tryd.prog ((World.doorLaid Tryd.prog 400 os).forCall (fun _ _ => 0) ⟨#[], #[.slice none 0 0], []⟩).memory Tryd.f13.params.toList Rows.fnSpanPiecesSpec.vars false (#[.slice none 0 0] : Array Value).toList 8).map (fun x => decide (Rows.uptoBulkAll (x.1 ++ x.2.1) ≤ 1048576))) = some true := by kernel_rfl

set_option maxRecDepth 100000 in
theorem lifted (os : Os) (started : os.Started) (H : Type) (enc : TypeId × Value → H) (F : Stop.Interp) :
    ReturnsInHanded {} Tryd.checked os 13 .any ((Rows.OpenSpec.upto Rows.fnSpanPiecesSpec).preRow enc Tryd.prog Tryd.f13 Rows.fnSpanPiecesUptoRow.domain false Rows.fnSpanPiecesUptoRow.laid) (((Rows.OpenSpec.upto Rows.fnSpanPiecesSpec).at F).post enc Tryd.prog Tryd.f13 false true false false) := by
  obtain ⟨⟨ds0, gs0, places⟩, hx, hx1⟩ := Option.map_eq_some_iff.1 (reads os enc)
  have hsmall : decide (Rows.uptoBulkAll (ds0 ++ gs0) ≤ 1048576) = true := hx1
  refine returnsInHanded_of_row (C := Tryd.checked) (s := Rows.OpenSpec.upto Rows.fnSpanPiecesSpec) own started (by kernel_rfl) Tryd.func13
    (witness_row_atRef (enc := enc) (C := Tryd.checked) false (World.doorLaid Tryd.prog 400 os) #[.slice none 0 0] rfl (by kernel_rfl) (by kernel_rfl) (by kernel_rfl)
      (OpenSpec.preRow_of_cond 8 hx (by kernel_rfl) (fun k hk => by cases hk; simp only [Rows.uptoSmall]; exact hsmall) (by kernel_rfl) (laid_met os))) ?_
  intro W base args ds gs before hval hW _ hcond _ hL _ _
  exact contract H enc W base args ds gs before hval hW (hcond _ rfl) hL

theorem said : Rows.FnSpanPiecesUptoSaid :=
  OpenClaim.holds_of_cond 13 Tryd.f13 rfl rfl rfl rfl rfl rfl rfl ⟨rfl, rfl, rfl, rfl, rfl⟩ rfl rfl rfl rfl rfl (by kernel_rfl) Tryd.func13 (by kernel_rfl)
    (of_decide_eq_true (by kernel_rfl)) (by unfold Func.isWrapper; first | (rw [if_pos (by decide +kernel)]; kernel_rfl) | (rw [if_neg (by decide +kernel)]; exact ⟨rfl, rfl⟩))
    (fun os started H enc _ F => by rw [OpenClaim.pre_eq_preRow]; exact lifted os started H enc F)

theorem plain (f : FuncId) (fn : Func) (hf : Tryd.pinned.checked.prog.funcNamed "loop.example/pub-g01468/laws.FnSpanPieces" = some f) (hfn : Tryd.pinned.checked.prog.funcs[f]? = some fn) :
    true = Tryd.pinned.checked.prog.looks [] ∧ ∀ (j : Nat) t, fn.params[j]? = some t → Tryd.pinned.checked.prog.wantsStandIn t = false := by
  obtain rfl := plain_of f fn _ 13 Tryd.f13 (by kernel_rfl) Tryd.func13 hf hfn
  refine ⟨by kernel_rfl, fun j t ht => ?_⟩
  rw [Tryd.params13] at ht
  have hm := Array.mem_of_getElem? ht
  simp at hm
  subst hm
  exact (show Tryd.prog.wantsStandIn 35 = false by kernel_rfl)

/-- The card. -/
theorem card : Rows.FnSpanPiecesUptoCardSaid :=
  Claim7.holds_tied_plain_at .later [] _ _ _ _ said (fun _ h => by cases h) (by kernel_rfl) (fun _ h => by cases h) fnSpanPiecesUpto_row_tie rfl ⟨rfl, rfl⟩ (by kernel_rfl) rfl plain (by kernel_rfl)
#print axioms card
end Go.Proofs.YtoceibpgapjhcaaDoor.fnSpanPieces
