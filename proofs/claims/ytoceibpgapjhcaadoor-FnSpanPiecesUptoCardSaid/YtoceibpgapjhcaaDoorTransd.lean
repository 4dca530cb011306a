/- What impl.Transformed returns. -/
import Derived.Test.YtoceibpgapjhcaaDoorTrans
import Derived.Test.YtoceibpgapjhcaaDoorSaid
import Derived.Test.YtoceibpgapjhcaaDoorStepApp
import Derived.BigQuiet
import Derived.Deep.QuietTactic
namespace Go.Proofs.YtoceibpgapjhcaaDoor
open Go.RowKit
set_option linter.unusedVariables false

theorem own_none {W : World} {e : TypeId} {g : Nat} (h : W.heap[g]? = some (.cells #[] e (0, 0))) : Own W e g 0 0 [] :=
  ⟨by simp [Bytes], rfl, #[], h, Nat.le_refl _, by simp [maxLen], rfl, rfl⟩
theorem make_any (n : Nat) (hn : n ≤ 2147483647) : ∃ C : List Value, C.length = n ∧ ∀ W, (Instr.makeSlice 22 (.int .i64 n) (.int .i64 n)).run Tryd.prog W = .ok (.slice (some ⟨W.heap.size, 0, none⟩) n n) (W.alloc (.cells C.toArray 5)) := by
  obtain ⟨i0, hi, hz0, hz1, hz2⟩ := info_parts info5
  refine ⟨(madeCells (Value.int .u8 0).cells n).toList, ?_, fun W => ?_⟩
  · rw [Array.length_toList, size_madeCells]
  · have := run_make (P := Tryd.prog) W 22 5 i0 _ Tryd.underlying22 hi hz0 .i64 .i64 n n (by omega) (by omega) (by rw [hz2]; omega) (by omega)
    rw [this]
    simp [hz1]

theorem sz (w : World) (o : Obj) : (w.alloc o).heap.size = w.heap.size + 1 := Array.size_push _
theorem at_alloc (w : World) (o : Obj) (i : Nat) : (w.alloc o).heap[i]? = if i = w.heap.size then some o else w.heap[i]? := Array.getElem?_push
theorem drew_heap (w : World) : w.drew.heap = w.heap := rfl
abbrev T0 : Obj := .cells #[.int .u8 0, .bool false, .int .u16 0] 62
abbrev B0 : Obj := .cells #[] 5
/-- All that Transform asks, at a fresh Transformer, a row to write into and a row to read. -/
def Ready (w W : World) (gd gs m n cap : Nat) (cur : List Value) (L : List Int) : Prop :=
  W.heap[gd]? = some (.cells cur.toArray 5 (0, 0)) ∧ cur.length = m ∧ Own W 5 gs n cap L ∧ gs ≠ w.heap.size ∧ w.heap.size < gd ∧ Tf W w.heap.size (.bool false) 0 0 ∧ Below w.heap.size w W
def After (w : World) (e : Ending) (w2 : World) : Prop := ∃ (x : Value) (st q : Nat), e = .returned x ∧ Below w.heap.size w w2 ∧ Tf w2 w.heap.size (.bool false) st q
theorem Ready.calls {w W : World} {gd gs n cap : Nat} {cur : List Value} {L : List Int} (h : Ready w W gd gs n n cap cur L) (hn : n ≤ 2147483647) (hT : TabAt w) {E : Addr} (hE : w.cell? ⟨0, 0, none⟩ = some (.iface 88 (.pointer (some E)))) :
    Calls Tryd.prog 42 #[.pointer (some ⟨w.heap.size, 0, none⟩), .slice (some ⟨gd, 0, none⟩) n n, .slice (some ⟨gs, 0, none⟩) n cap, .bool true] W (After w) := by
  obtain ⟨h1, h2, h3, h4, h5, h6, h7⟩ := h
  refine (transform_fit w.heap.size gd gs 0 0 5 5 (.bool false) true E n n n cap w.heap.size cur L W h1 h2 (Nat.le_refl _) (by omega) h3 h4 h5 hT.lt (Nat.le_refl _) (by omega) h6 (hT.below h7) (by omega) (by omega)
    ((h7.cell (p := ⟨0, 0, none⟩) (World.block_lt_of_cell? w _ hE)).trans hE)).mono ?_
  rintro e w2 ⟨rfl, hf, _, hb⟩
  exact ⟨_, _, _, rfl, h7.trans hb, hf⟩
theorem below_two (w : World) (a b : Obj) : Below w.heap.size w ((w.alloc a).alloc b).drew := (((Below.refl _ _).alloc (Nat.le_refl _) a).alloc (by rw [sz]; omega) b).drew
theorem below_three (w : World) (a b c : Obj) : Below w.heap.size w (((w.alloc a).alloc b).alloc c).drew := ((((Below.refl _ _).alloc (Nat.le_refl _) a).alloc (by rw [sz]; omega) b).alloc (by rw [sz, sz]; omega) c).drew
theorem ready_mba {w w1 : World} {C : List Value} {m n g' cap : Nat} {L : List Int} (hC : C.length = m) (hg : g' = w.heap.size + 1 + 1 ∨ g' = (((w.alloc T0).alloc (.cells C.toArray 5)).alloc B0).drew.heap.size)
    (ho : Own w1 5 g' n cap ([] ++ L)) (hgr : (((w.alloc T0).alloc (.cells C.toArray 5)).alloc B0).drew.grownBy w1 (some (w.heap.size + 1 + 1))) : Ready w w1 (w.heap.size + 1) g' m n cap C L := by
  have hs : (((w.alloc T0).alloc (.cells C.toArray 5)).alloc B0).drew.heap.size = w.heap.size + 1 + 1 + 1 := by rw [drew_heap, sz, sz, sz]
  rw [hs] at hg
  refine ⟨(hgr.block _ (by rw [hs]; omega) (by first | (simp; done) | (simp; omega))).trans ?_, hC, ho, by omega, by omega, (hgr.block _ (by rw [hs]; omega) (by first | (simp; done) | (simp; omega))).trans ?_, (below_three w _ _ _).trans (below_grown hgr (by omega) (by rw [hs]; omega))⟩
  · simp only [drew_heap, at_alloc, sz]; rw [if_neg (by omega), if_pos trivial]
  · simp only [drew_heap, at_alloc, sz]; rw [if_neg (by omega), if_neg (by omega), if_pos trivial]; rfl
theorem ready_bma {w w1 : World} {C : List Value} {m n g' cap : Nat} {L : List Int} (hC : C.length = m) (hg : g' = w.heap.size + 1 ∨ g' = (((w.alloc T0).alloc B0).alloc (.cells C.toArray 5)).drew.heap.size)
    (ho : Own w1 5 g' n cap ([] ++ L)) (hgr : (((w.alloc T0).alloc B0).alloc (.cells C.toArray 5)).drew.grownBy w1 (some (w.heap.size + 1))) : Ready w w1 (w.heap.size + 1 + 1) g' m n cap C L := by
  have hs : (((w.alloc T0).alloc B0).alloc (.cells C.toArray 5)).drew.heap.size = w.heap.size + 1 + 1 + 1 := by rw [drew_heap, sz, sz, sz]
  rw [hs] at hg
  refine ⟨(hgr.block _ (by rw [hs]; omega) (by first | (simp; done) | (simp; omega))).trans ?_, hC, ho, by omega, by omega, (hgr.block _ (by rw [hs]; omega) (by first | (simp; done) | (simp; omega))).trans ?_, (below_three w _ _ _).trans (below_grown hgr (by omega) (by rw [hs]; omega))⟩
  · simp only [drew_heap, at_alloc, sz]; rw [if_pos trivial]
  · simp only [drew_heap, at_alloc, sz]; rw [if_neg (by omega), if_neg (by omega), if_pos trivial]; rfl
theorem ready_bam {w w1 : World} {C : List Value} {m n g' cap : Nat} {L : List Int} (hC : C.length = m) (hg : g' = w.heap.size + 1 ∨ g' = ((w.alloc T0).alloc B0).drew.heap.size)
    (ho : Own w1 5 g' n cap ([] ++ L)) (hgr : ((w.alloc T0).alloc B0).drew.grownBy w1 (some (w.heap.size + 1))) : Ready w (w1.alloc (.cells C.toArray 5)) w1.heap.size g' m n cap C L := by
  have hs : ((w.alloc T0).alloc B0).drew.heap.size = w.heap.size + 1 + 1 := by rw [drew_heap, sz, sz]
  rw [hs] at hg
  have h1 := hgr.size
  rw [hs] at h1
  refine ⟨heap_alloc_new w1 _, hC, ho.alloc _, by omega, by omega, Tf.alloc ((hgr.block _ (by rw [hs]; omega) (by first | (simp; done) | (simp; omega))).trans ?_) _, ((below_two w _ _).trans (below_grown hgr (by omega) (by rw [hs]; omega))).alloc (by omega) _⟩
  simp only [drew_heap, at_alloc, sz]; rw [if_neg (by omega), if_pos trivial]; rfl

/-- What the second call is handed, and what it says. -/
def Second (L : List Int) (n m : Nat) (w : World) (E : Addr) (rn : Nat) (ev : Value) : Prop :=
  (n ≤ m ∧ rn = (run init L).n ∧ ev = erv (fineR (run init L)) E) ∨
  (m < n ∧ fineR (run init (L.take m)) = true ∧ rn = m ∧ ∃ D, w.cell? ⟨2, 0, none⟩ = some (.iface 88 (.pointer (some D))) ∧ ev = .iface 88 (.pointer (some D)))
def After2 (w : World) (gd : Nat) (C : List Value) (L : List Int) (rn : Nat) (ev : Value) (e : Ending) (w2 : World) : Prop :=
  e = .returned (.tuple #[.int .i64 rn, .int .i64 rn, ev]) ∧ w2.heap[gd]? = some (.cells (splice C 0 (vals (L.take rn))).toArray 5 (0, 0)) ∧ Below w.heap.size w w2
theorem Ready.calls2 {w W : World} {gd gs m n cap : Nat} {cur : List Value} {L : List Int} (h : Ready w W gd gs m n cap cur L) (hn : n ≤ 2147483647) (hm : m ≤ 10000) (hT : TabAt w) {E : Addr} (hE : w.cell? ⟨0, 0, none⟩ = some (.iface 88 (.pointer (some E))))
    {rn : Nat} {ev : Value} (hs : Second L n m w E rn ev) :
    Calls Tryd.prog 42 #[.pointer (some ⟨w.heap.size, 0, none⟩), .slice (some ⟨gd, 0, none⟩) m m, .slice (some ⟨gs, 0, none⟩) n cap, .bool true] W (After2 w gd cur L rn ev) := by
  obtain ⟨h1, h2, h3, h4, h5, h6, h7⟩ := h
  have hE' := (h7.cell (p := ⟨0, 0, none⟩) (World.block_lt_of_cell? w _ hE)).trans hE
  rcases hs with ⟨hnm, rfl, rfl⟩ | ⟨hmn, hf, rfl, D, hD, rfl⟩
  · refine (transform_fit w.heap.size gd gs 0 0 5 5 (.bool false) true E m m n cap w.heap.size cur L W h1 h2 hnm (by omega) h3 h4 h5 hT.lt (Nat.le_refl _) (by omega) h6 (hT.below h7) (by omega) (by omega) hE').mono ?_
    rintro e w2 ⟨rfl, _, hg, hb⟩
    exact ⟨rfl, hg, h7.trans hb⟩
  · refine (transform_short w.heap.size gd gs 0 0 5 5 (.bool false) true E D rn rn n cap w.heap.size cur L W h1 h2 hmn (by omega) h3 h4 h5 hT.lt (Nat.le_refl _) (by omega) h6 (hT.below h7) (by omega) (by omega) hE'
      ((h7.cell (p := ⟨2, 0, none⟩) (World.block_lt_of_cell? w _ hD)).trans hD) hf).mono ?_
    rintro e w2 ⟨rfl, _, hg, hb⟩
    exact ⟨rfl, hg, h7.trans hb⟩
theorem below_more {w w3 : World} (hb : Below w.heap.size w w3) (a b : Obj) : Below w.heap.size w ((w3.alloc a).alloc b) := (hb.alloc hb.size a).alloc (by rw [sz]; have := hb.size; omega) b
theorem ready_two {w w3 w1 : World} {C : List Value} {m n g' cap : Nat} {L : List Int} (hC : C.length = m) (hf : Tf w3 w.heap.size (.bool false) 0 0) (hb : Below w.heap.size w w3) (hg : g' = w3.heap.size + 1 ∨ g' = w3.heap.size + 1 + 1)
    (ho : Own w1 5 g' n cap ([] ++ L)) (hgr : ((w3.alloc (.cells C.toArray 5)).alloc B0).grownBy w1 (some (w3.heap.size + 1))) : Ready w w1 w3.heap.size g' m n cap C L := by
  have hs : ((w3.alloc (.cells C.toArray 5)).alloc B0).heap.size = w3.heap.size + 1 + 1 := by rw [sz, sz]
  have hlt := hf.lt
  refine ⟨(hgr.block _ (by rw [hs]; omega) (by simp)).trans ?_, hC, ho, by omega, by omega, (hgr.block _ (by rw [hs]; omega) (by simp; omega)).trans ?_, ((hb.alloc (by omega) _).alloc (by rw [sz]; omega) _).trans (below_grown hgr (by omega) (by rw [hs]; omega))⟩
  · simp only [at_alloc, sz]; rw [if_neg (by omega), if_pos trivial]
  · simp only [at_alloc, sz]; rw [if_neg (by omega), if_neg (by omega)]; exact hf
theorem lab_splice {w : World} {gd rn m : Nat} {C : List Value} {L : List Int} (hb : Bytes L) (hl : rn ≤ L.length) (h : w.heap[gd]? = some (.cells (splice C 0 (vals (L.take rn))).toArray 5 (0, 0))) : Lab w (.slice (some ⟨gd, 0, none⟩) rn m) (L.take rn) := by
  have hlen : (L.take rn).length = rn := by simp; omega
  refine ⟨fun c hc => hb c (List.mem_of_mem_take hc), ?_⟩
  by_cases h0 : rn = 0
  · subst h0; exact .inl ⟨_, m, rfl, by simp, fun h => by cases h⟩
  · refine .inr ⟨gd, 0, m, by rw [hlen], by omega, fun i hi => ?_⟩
    rw [hlen] at hi
    have hi2 : i < (vals (L.take rn)).length := by simp [vals]; omega
    have e1 : (splice C 0 (vals (L.take rn)))[i]? = (vals (L.take rn))[i]? := by
      unfold splice
      rw [List.take_zero, List.nil_append, List.getElem?_append_left hi2]
    simp only [World.cell?, h, Nat.zero_add]
    rw [List.getElem?_toArray, e1]
    simp [vals, hi, show i < L.length by omega]
def TransPost (w : World) (m : Nat) (L : List Int) (rn : Nat) (sd : Int) (e : Ending) (w' : World) : Prop :=
  ∃ gd, e = .returned (.tuple #[.slice (some ⟨gd, 0, none⟩) rn m, .int .i64 rn, .int .i64 sd]) ∧ Lab w' (.slice (some ⟨gd, 0, none⟩) rn m) (L.take rn) ∧ Below w.heap.size w w'
def Says (w : World) (ev : Value) (sd : Int) : Prop := ∀ w', Below w.heap.size w w' → Calls Tryd.prog 41 #[ev] w' fun e w'' => e = .returned (.int .i64 sd) ∧ w' = w''

end Go.Proofs.YtoceibpgapjhcaaDoor
