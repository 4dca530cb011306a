/- From the row's own condition to what the walk asks, and back: the listed map's look-ups, the variable read again, a world for the witness. -/
import Derived.Test.YtdpgkgmnlcepbaaDoorCards
import Derived.Test.YtdpgkgmnlcepbaaDoorTie
import Derived.Test.YtdpgkgmnlcepbaaDoorAddr
import Derived.WalkKit
import Derived.ProofKit
import Derived.OpenShut
import Derived.LaidMore
import Derived.Maps.OwnSet
import Derived.Maps.StringElems
import Derived.Deep.DeepHandedRow
import Derived.Deep.DeepWitnessRowRef
namespace Go.Proofs.YtdpgkgmnlcepbaaDoor
open Go.ChangeShapes Go.WideShapes Go.ChangeAt Go.RowKit Go.WideMaps Go.WideElems Go.Maps
set_option linter.unusedVariables false

theorem own : ownKnob Tryd.prog.godebug = none := by kernel_rfl
theorem laidOut : laidOutB Tryd.prog = true := by kernel_rfl
theorem gMap : Tryd.prog.globalNamed "loop.example/pub-g01468/pub/httpproxy.portMap" = some 0 := by kernel_rfl
theorem gMapType : (Tryd.prog.globals[0]?).map (·.type) = some 39 := by kernel_rfl
theorem zero9 (w : World) : (zeroValue 9).run Tryd.prog w = .ok (.string ⟨#[]⟩) w := by kernel_rfl
theorem law : Keyed Tryd.prog 9 := string_keyed Tryd.underlying9

abbrev ports : DataW Unit := Rows.laid_loop_example_pub_g01468_pub_httpproxy_portMap

theorem look_in {W : World} {bm n : Nat} (hown : W.ownsMap Tryd.prog 9 (plainElem Tryd.prog 9) bm n ports) (hbm : bm < W.heap.size) (key val : ByteArray) (hk : key.size ≤ maxLen)
    (hat : ports.atKey (.string key.data.toList) (.lit (.string [])) = .lit (.string val.data.toList)) :
    ∀ wx, Below W.heap.size W wx → (Instr.lookup 39 (.map (some bm)) (.string key) false).run Tryd.prog wx = .ok (.string val) wx := by
  intro wx hb
  have hown' : wx.ownsMap Tryd.prog 9 (plainElem Tryd.prog 9) bm n ports := by
    obtain ⟨es, clock, hbk, F1, hle, hD⟩ := hown
    exact ⟨es, clock, by rw [hb.block bm hbm]; exact hbk, F1, hle, hD⟩
  obtain ⟨v, ps, hrun, hv⟩ := hown'.lookup law Tryd.underlying39 (zero9 _) (plainElem_string Tryd.underlying9 (s := ⟨#[]⟩) (by decide)) (keyOf_string_mk Tryd.underlying9 hk)
  obtain ⟨val', rfl, hz, _⟩ := plainElem_string_inv Tryd.underlying9 hv
  have h2 : ports.atKey (.string key.data.toList) (.lit (.string [])) = .lit (.string val'.data.toList) := congrArg Prod.fst hz
  rw [hat] at h2
  simp only [DataW.lit.injEq, Lit.string.injEq] at h2
  rw [bytes_eq h2]
  exact hrun

theorem door_of {W : World} (h : laidMetH Tryd.prog Rows.fnCanonicalRow.laid W) : ∃ bm, Door W bm := by
  rw [MakeChecks.laidMetH_plain _ _ _ (by kernel_rfl)] at h
  obtain ⟨ps, ⟨g0, t0, cs0, f0, p0, q0, hg0, ht0, hv0, hd0, _, _⟩, _⟩ := h
  obtain rfl := Option.some.inj (gMap.symm.trans hg0)
  obtain rfl := Option.some.inj (gMapType.symm.trans ht0)
  rcases open_map Tryd.underlying39 hd0 with ⟨_, hx⟩ | ⟨bm, es, clock, m, rfl, hcs, hb, _, F, hx⟩
  · simp [Rows.laid_loop_example_pub_g01468_pub_httpproxy_portMap] at hx
  simp only [Prod.mk.injEq] at hx
  have hcell : W.cell? ⟨0, 0, none⟩ = some (.map (some bm)) := by
    have := World.var?_cell hg0 hv0 0
    rw [Array.eq_one_of_toList hcs] at this
    simpa using this
  have hown := World.ownsMap_of_fit (R := plainElem Tryd.prog 9) hb F (fun x _ z hz => elemAt_plainElem_string Tryd.underlying9 hz)
  rw [← hx.1] at hown
  have hbm := (Array.getElem?_eq_some_iff.1 hb).1
  exact ⟨bm, hcell, fun wx hw => ⟨look_in hown hbm _ _ (by decide) rfl wx hw, look_in hown hbm _ _ (by decide) rfl wx hw, look_in hown hbm _ _ (by decide) rfl wx hw⟩⟩

theorem places_old {H : Type} {enc : TypeId × Value → H} {W : World} {sp : Nat → Bool} {held : Bool} {t : TypeId} {v : Value} {d : DataW H} {p : List MemPlace} (h : DataW.Trod enc Tryd.prog W 0 sp held t v d p) : ∀ x ∈ p, x.block < W.heap.size := by
  obtain ⟨m, hm⟩ := h; exact DataW.trod_lt m _ _ _ hm
/-- The one named variable reads behind the call as before it. -/
theorem vars_again {H : Type} {enc : TypeId × Value → H} {W W' : World} {d : DataW H} {ps : List MemPlace} (hb : Below W.heap.size W W')
    (h : DataW.TrodVars enc Tryd.prog W (fun _ => true) ["loop.example/pub-g01468/pub/httpproxy.portMap"] [d] ps) :
    DataW.TrodVars enc Tryd.prog W' (fun b => decide (b < W.heap.size)) ["loop.example/pub-g01468/pub/httpproxy.portMap"] [d] ps := by
  obtain ⟨g, t, cs, fuel, d', p, hd, hg, hty, hv, ht, rfl⟩ := trodVars_one h
  simp only [List.cons.injEq, and_true] at hd
  subst hd
  obtain rfl := Option.some.inj (gMap.symm.trans hg)
  obtain rfl := Option.some.inj (gMapType.symm.trans hty)
  have hT : DataW.Trod enc Tryd.prog W 0 (fun _ => true) true 39 (.agg cs) d p := ⟨fuel, ht⟩
  obtain ⟨fuel', ht'⟩ := Below.trod laidOut (by kernel_rfl) (of_decide_eq_true (by kernel_rfl)) hT hb (places_old hT)
  have h3 : 0 < W.heap.size := by
    unfold World.var? at hv
    simp only [gMap, Option.bind_some] at hv
    rcases Nat.lt_or_ge 0 W.heap.size with h | h
    · exact h
    · rw [Array.getElem?_eq_none h] at hv; simp at hv
  exact trodVars_mk1 gMap gMapType (var?_below hb gMap h3 hv) ht'

theorem plain_of (f : FuncId) (fn : Func) (name : String) (n : FuncId) (F : Func) (hn : Tryd.prog.funcNamed name = some n) (hF : Tryd.prog.funcs[n]? = some F) (hf : Tryd.pinned.checked.prog.funcNamed name = some f) (hfn : Tryd.pinned.checked.prog.funcs[f]? = some fn) : fn = F := by
  obtain rfl : f = n := Option.some.inj (hf.symm.trans hn)
  exact Option.some.inj (hfn.symm.trans hF)
end Go.Proofs.YtdpgkgmnlcepbaaDoor
