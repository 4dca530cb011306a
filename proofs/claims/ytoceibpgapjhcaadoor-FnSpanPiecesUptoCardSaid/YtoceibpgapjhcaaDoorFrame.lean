/- From the rows' own conditions to what the walks ask, and back: the listed table's cells, the arguments' readings, the listed variable read again, a world for the witness. -/
import Derived.Test.YtoceibpgapjhcaaDoorCards
import Derived.Test.YtoceibpgapjhcaaDoorTie
import Derived.Test.YtoceibpgapjhcaaDoorRule
import Derived.Test.YtoceibpgapjhcaaDoorSpec2
import Derived.WalkKit
import Derived.ProofKit
import Derived.OpenShut
import Derived.Deep.DeepHandedRow
import Derived.Lib.LaidTab
namespace Go.Proofs.YtoceibpgapjhcaaDoor
open Go.ChangeShapes Go.WideShapes Go.ChangeAt Go.RowKit
set_option linter.unusedVariables false

theorem own : ownKnob Tryd.prog.godebug = none := by kernel_rfl
theorem laidOut : laidOutB Tryd.prog = true := by kernel_rfl
theorem gTab : Tryd.prog.globalNamed "loop.example/pub-g01468/pub/bidirule.transitions" = some 3 := by kernel_rfl
theorem gTabType : (Tryd.prog.globals[3]?).map (·.type) = some 72 := by kernel_rfl
theorem cells72 : Tryd.prog.cellsOf 72 = 24 := by kernel_rfl
theorem cells71 : Tryd.prog.cellsOf 71 = 4 := by kernel_rfl
theorem cells70 : Tryd.prog.cellsOf 70 = 2 := by kernel_rfl
theorem cells60 : Tryd.prog.cellsOf 60 = 1 := by kernel_rfl
theorem cells43 : Tryd.prog.cellsOf 43 = 1 := by kernel_rfl

theorem list2 {l : List Value} (h : l.length = 2) : ∃ x y, l = [x, y] := by
  match l, h with
  | [x, y], _ => exact ⟨x, y, rfl⟩
theorem list4 {l : List Value} (h : l.length = 4) : ∃ x y z u, l = [x, y, z, u] := by
  match l, h with
  | [x, y, z, u], _ => exact ⟨x, y, z, u, rfl⟩
theorem cut_at {l : List Value} {i k : Nat} {xs : List Value} (h : (l.drop i).take k = xs) (j : Nat) (hj : j < k) : l[i + j]? = xs[j]? := by
  rw [← h, List.getElem?_take, if_pos hj, List.getElem?_drop]

section
variable {H : Type} {enc : TypeId × Value → H} {w : World} {base : Nat} {sp : Nat → Bool} {held : Bool}
theorem pair_of {fuel : Nat} {cs : List Value} {a b : Int} {q : List MemPlace} (h : DataW.trod enc Tryd.prog w base sp held fuel 70 cs = some (.agg [.lit (.int .u8 a), .lit (.int .u16 b)], q)) : cs = [.int .u8 a, .int .u16 b] := by
  obtain ⟨y0, y1, n, hx, hl, h0, h1⟩ := trod_struct2 Tryd.underlying70 h
  rw [cells70] at hl
  obtain ⟨x, y, rfl⟩ := list2 hl
  obtain ⟨z0, c0, rfl, _⟩ := DataW.trod_int Tryd.underlying60 h0
  obtain ⟨z1, c1, rfl, _⟩ := DataW.trod_int Tryd.underlying43 h1
  rw [cells60] at c0
  rw [cells43] at c1
  simp at c0 c1 hx
  obtain ⟨⟨rfl, rfl⟩, _⟩ := hx
  rw [c0, c1]

theorem row_of {fuel : Nat} {cs : List Value} {a b c d : Int} {q : List MemPlace} (h : DataW.trod enc Tryd.prog w base sp held fuel 71 cs = some (.agg [.agg [.lit (.int .u8 a), .lit (.int .u16 b)], .agg [.lit (.int .u8 c), .lit (.int .u16 d)]], q)) : cs = [.int .u8 a, .int .u16 b, .int .u8 c, .int .u16 d] := by
  obtain ⟨xs, m, _, hx, hl, hlen, hf⟩ := DataW.trod_array Tryd.underlying71 h
  rw [cells71] at hl
  obtain ⟨x, y, z, u, rfl⟩ := list4 hl
  rw [cells70] at hf
  have h0 := hf 0 (by omega)
  have h1 := hf 1 (by omega)
  simp only [Prod.mk.injEq, DataW.agg.injEq] at hx
  have g := hx.1
  have g0 : (xs.map (·.1))[0]? = some (.agg [.lit (.int .u8 a), .lit (.int .u16 b)]) := by rw [← g]; rfl
  have g1 : (xs.map (·.1))[1]? = some (.agg [.lit (.int .u8 c), .lit (.int .u16 d)]) := by rw [← g]; rfl
  rw [List.getElem?_map, Option.map_eq_some_iff] at g0 g1
  obtain ⟨⟨d0, q0⟩, e0, rfl⟩ := g0
  obtain ⟨⟨d1, q1⟩, e1, rfl⟩ := g1
  rw [e0] at h0
  rw [e1] at h1
  have r0 := pair_of h0
  have r1 := pair_of h1
  simp at r0 r1
  rw [r0.1, r0.2, r1.1, r1.2]

theorem tab_rows {fuel : Nat} {cs : List Value} {q : List MemPlace} (h : DataW.trod enc Tryd.prog w base sp held fuel 72 cs = some (Rows.laid_loop_example_pub_g01468_pub_bidirule_transitions, q)) :
    ∀ st, st ≤ 5 → (cs.drop (st * 4)).take 4 = [.int .u8 (n0 st), .int .u16 (m0 st), .int .u8 (n1 st), .int .u16 (m1 st)] := by
  obtain ⟨xs, m, _, hx, hl, hlen, hf⟩ := DataW.trod_array Tryd.underlying72 h
  rw [cells71] at hf
  unfold Rows.laid_loop_example_pub_g01468_pub_bidirule_transitions at hx
  simp only [Prod.mk.injEq, DataW.agg.injEq] at hx
  have g := hx.1
  have one : ∀ (st : Nat) (a b c d : Int), st < 6 → (xs.map (·.1))[st]? = some (.agg [.agg [.lit (.int .u8 a), .lit (.int .u16 b)], .agg [.lit (.int .u8 c), .lit (.int .u16 d)]]) →
      (cs.drop (st * 4)).take 4 = [.int .u8 a, .int .u16 b, .int .u8 c, .int .u16 d] := by
    intro st a b c d hs hg
    rw [List.getElem?_map, Option.map_eq_some_iff] at hg
    obtain ⟨⟨d0, q0⟩, e0, rfl⟩ := hg
    have h0 := hf st hs
    rw [e0] at h0
    exact row_of h0
  intro st hs
  have : st = 0 ∨ st = 1 ∨ st = 2 ∨ st = 3 ∨ st = 4 ∨ st = 5 := by omega
  rcases this with rfl | rfl | rfl | rfl | rfl | rfl
  all_goals exact one _ _ _ _ _ (by omega) (by rw [← g]; rfl)
end

theorem tab_var {W : World} {cs : Array Value} (hv : W.var? Tryd.prog "loop.example/pub-g01468/pub/bidirule.transitions" = some cs)
    (hr : ∀ st, st ≤ 5 → (cs.toList.drop (st * 4)).take 4 = [.int .u8 (n0 st), .int .u16 (m0 st), .int .u8 (n1 st), .int .u16 (m1 st)]) : TabAt W := by
  intro st hs
  have hc : ∀ j, j < 4 → W.cell? ⟨3, st * 4 + j, none⟩ = [Value.int .u8 (n0 st), .int .u16 (m0 st), .int .u8 (n1 st), .int .u16 (m1 st)][j]? := by
    intro j hj
    rw [World.var?_cell gTab hv (st * 4 + j), ← Array.getElem?_toList]
    exact cut_at (hr st hs) j hj
  exact ⟨by simpa using hc 0 (by omega), by simpa using hc 1 (by omega), by simpa using hc 2 (by omega), by simpa using hc 3 (by omega)⟩

theorem tab_laid {W : World} (h : laidMet Tryd.prog [("loop.example/pub-g01468/pub/bidirule.transitions", Rows.laid_loop_example_pub_g01468_pub_bidirule_transitions)] W) : TabAt W := by
  obtain ⟨ps, ⟨g', t', cs, fuel, p, q, hg', ht', hvar, hd, _, _⟩, _⟩ := h
  obtain rfl := Option.some.inj (gTab.symm.trans hg')
  obtain rfl := Option.some.inj (gTabType.symm.trans ht')
  exact tab_var hvar (tab_rows hd)

/-- What is known of a slice of integers that came in. -/
def IsRow (k : IntKind) (w : World) (a : Option Addr) (len cap : Nat) (zs : List Int) : Prop :=
  (a = none ∧ len = 0 ∧ cap = 0 ∧ zs = []) ∨
  ∃ x, a = some x ∧ len ≤ cap ∧ cap ≤ maxLen ∧ zs.length = cap ∧ (∀ i, i < zs.length → w.cell? (x.add i) = some (.int k (zs.getD i 0))) ∧ ∀ n ∈ zs, (Lit.int k n).wf = true

theorem lab_of {w : World} {a : Option Addr} {len cap : Nat} {zs : List Int} (h : IsRow .u8 w a len cap zs) : Lab w (.slice a len cap) (zs.take len) := by
  rcases h with ⟨rfl, rfl, rfl, rfl⟩ | ⟨x, rfl, hl, hm, hz, hcell, hwz⟩
  · exact ⟨by simp [Bytes], .inl ⟨none, 0, rfl, by simp, fun _ => rfl⟩⟩
  · have hlen : (zs.take len).length = len := by simp; omega
    refine ⟨fun c hc => ?_, ?_⟩
    · have := bounds_u8 (hwz c (List.mem_of_mem_take hc))
      omega
    · by_cases h0 : len = 0
      · subst h0; exact .inl ⟨some x, cap, rfl, by simp, fun h => by cases h⟩
      · obtain ⟨b, off, spot⟩ := x
        have hc := hcell 0 (by omega)
        have hspot : spot = none := by simpa [Addr.add] using World.cell?_spot hc
        subst hspot
        refine .inr ⟨b, off, cap, by rw [hlen], by omega, fun i hi => ?_⟩
        rw [hlen] at hi
        have := hcell i (by omega)
        have e : (⟨b, off, none⟩ : Addr).add i = ⟨b, off + i, none⟩ := by unfold Addr.add; split <;> simp_all
        rw [e] at this
        simpa [List.getElem?_take, hi] using this
theorem len_of {k : IntKind} {w : World} {a : Option Addr} {len cap : Nat} {zs : List Int} (h : IsRow k w a len cap zs) : len ≤ 9223372036854775807 := by
  rcases h with ⟨rfl, rfl, rfl, rfl⟩ | ⟨x, rfl, hl, hm, _⟩
  · omega
  · unfold maxLen at hm; omega

/-- A slice of bytes that came in. -/
theorem open_bytes {H : Type} {enc : TypeId × Value → H} {W : World} {a : Option Addr} {len cap : Nat} {d : DataW H} {p : List MemPlace} (h : DataW.Trod enc Tryd.prog W 0 (fun _ => true) true 22 (.slice a len cap) d p) : ∃ zs, IsRow .u8 W a len cap zs := by
  obtain ⟨fuel, hf⟩ := h
  rcases open_ints Tryd.underlying22 Tryd.underlying5 (by kernel_rfl) hf with ⟨hcs, _⟩ | ⟨x, l, c, zs, hcs, _, hl, hm, hz, _, hcell, hwz⟩
  · simp [Value.cells] at hcs
    obtain ⟨rfl, rfl, rfl⟩ := hcs
    exact ⟨[], .inl ⟨rfl, rfl, rfl, rfl⟩⟩
  · simp [Value.cells] at hcs
    obtain ⟨rfl, rfl, rfl⟩ := hcs
    exact ⟨zs, .inr ⟨_, rfl, hl, hm, by simpa using hz, hcell, hwz⟩⟩
theorem places_old {H : Type} {enc : TypeId × Value → H} {W : World} {sp : Nat → Bool} {held : Bool} {t : TypeId} {v : Value} {d : DataW H} {p : List MemPlace} (h : DataW.Trod enc Tryd.prog W 0 sp held t v d p) : ∀ x ∈ p, x.block < W.heap.size := by
  obtain ⟨m, hm⟩ := h; exact DataW.trod_lt m _ _ _ hm

/-- The one named variable reads behind the call as before it. -/
theorem vars_again {H : Type} {enc : TypeId × Value → H} {W W' : World} {d : DataW H} {ps : List MemPlace} (hb : Below W.heap.size W W')
    (h : DataW.TrodVars enc Tryd.prog W (fun _ => true) ["loop.example/pub-g01468/pub/bidirule.transitions"] [d] ps) :
    DataW.TrodVars enc Tryd.prog W' (fun b => decide (b < W.heap.size)) ["loop.example/pub-g01468/pub/bidirule.transitions"] [d] ps := by
  obtain ⟨g, t, cs, fuel, d', p, hd, hg, hty, hv, ht, rfl⟩ := trodVars_one h
  simp only [List.cons.injEq, and_true] at hd
  subst hd
  obtain rfl := Option.some.inj (gTab.symm.trans hg)
  obtain rfl := Option.some.inj (gTabType.symm.trans hty)
  have hT : DataW.Trod enc Tryd.prog W 0 (fun _ => true) true 72 (.agg cs) d p := ⟨fuel, ht⟩
  obtain ⟨fuel', ht'⟩ := Below.trod laidOut (by kernel_rfl) (of_decide_eq_true (by kernel_rfl)) hT hb (places_old hT)
  have h3 : 3 < W.heap.size := by
    unfold World.var? at hv
    simp only [gTab, Option.bind_some] at hv
    rcases Nat.lt_or_ge 3 W.heap.size with h | h
    · exact h
    · rw [Array.getElem?_eq_none h] at hv; simp at hv
  exact trodVars_mk1 gTab gTabType (var?_below hb gTab h3 hv) ht'

/-- A world for the witness: the settled one, the table holding what its initialiser lays. -/
noncomputable def laidWorld (os : Os) : World :=
  { World.holding Tryd.prog os ⟨#[], #[], []⟩ with heap := (World.holding Tryd.prog os ⟨#[], #[], []⟩).heap.modify 3 fun
      | .cells _ t frozen => .cells #[.int .u8 2, .int .u16 1, .int .u8 4, .int .u16 8194, .int .u8 2, .int .u16 5, .int .u8 1, .int .u16 7256, .int .u8 2, .int .u16 4101, .int .u8 1, .int .u16 3160,
          .int .u8 4, .int .u16 8230, .int .u8 3, .int .u16 7256, .int .u8 4, .int .u16 12326, .int .u8 3, .int .u16 3160, .int .u8 5, .int .u16 0, .int .u8 5, .int .u16 0] t frozen
      | o => o }
def laid1 : List (String × DataW Unit) := [("loop.example/pub-g01468/pub/bidirule.transitions", Rows.laid_loop_example_pub_g01468_pub_bidirule_transitions)]
theorem plain_of (f : FuncId) (fn : Func) (name : String) (n : FuncId) (F : Func) (hn : Tryd.prog.funcNamed name = some n) (hF : Tryd.prog.funcs[n]? = some F) (hf : Tryd.pinned.checked.prog.funcNamed name = some f) (hfn : Tryd.pinned.checked.prog.funcs[f]? = some fn) : fn = F := by
  obtain rfl : f = n := Option.some.inj (hf.symm.trans hn)
  exact Option.some.inj (hfn.symm.trans hF)
end Go.Proofs.YtoceibpgapjhcaaDoor
