/- What impl.SpanAll returns at pieces of which all but the whole conform. -/
import Derived.Test.YtoceibpgapjhcaaDoorPcs2
import Derived.Test.YtoceibpgapjhcaaDoorSaid
import Derived.Test.YtoceibpgapjhcaaDoorLaw7
namespace Go.Proofs.YtoceibpgapjhcaaDoor
open Go.RowKit
set_option linter.unusedVariables false

theorem step_shift (k j s q : Nat) (c : Int) : (step ⟨k, true, s, q⟩ c).ok = (step ⟨j, true, s, q⟩ c).ok ∧ (step ⟨k, true, s, q⟩ c).st = (step ⟨j, true, s, q⟩ c).st ∧ (step ⟨k, true, s, q⟩ c).seen = (step ⟨j, true, s, q⟩ c).seen := by
  unfold step
  simp only [if_true]
  split
  · exact ⟨rfl, rfl, rfl⟩
  · split <;> exact ⟨rfl, rfl, rfl⟩
theorem run_shift (l : List Int) (k j s q : Nat) : (run ⟨k, true, s, q⟩ l).ok = (run ⟨j, true, s, q⟩ l).ok ∧ (run ⟨k, true, s, q⟩ l).st = (run ⟨j, true, s, q⟩ l).st ∧ (run ⟨k, true, s, q⟩ l).seen = (run ⟨j, true, s, q⟩ l).seen := by
  induction l generalizing k j s q with
  | nil => exact ⟨rfl, rfl, rfl⟩
  | cons c t ih =>
    have e1 : run ⟨k, true, s, q⟩ (c :: t) = run (step ⟨k, true, s, q⟩ c) t := rfl
    have e2 : run ⟨j, true, s, q⟩ (c :: t) = run (step ⟨j, true, s, q⟩ c) t := rfl
    have h := step_shift k j s q c
    rw [e1, e2]
    generalize step ⟨k, true, s, q⟩ c = x at h
    generalize step ⟨j, true, s, q⟩ c = y at h
    obtain ⟨xn, xo, xs, xq⟩ := x
    obtain ⟨yn, yo, ys, yq⟩ := y
    obtain ⟨h1, h2, h3⟩ := h
    simp only at h1 h2 h3
    subst h1 h2 h3
    cases xo
    · rw [run_stop, run_stop]; exact ⟨rfl, rfl, rfl⟩
    · exact ih _ _ _ _

/-- The state behind the pieces so far. -/
def RunAt (l : List Int) (st q : Nat) : Prop := (run init l).ok = true ∧ (run init l).st = st ∧ (run init l).seen = q
theorem run_two {A B : List Int} {st q : Nat} (h : RunAt A st q) : (run init (A ++ B)).ok = (run ⟨0, true, st, q⟩ B).ok ∧ (run init (A ++ B)).st = (run ⟨0, true, st, q⟩ B).st ∧ (run init (A ++ B)).seen = (run ⟨0, true, st, q⟩ B).seen := by
  rw [run_append]
  obtain ⟨h1, h2, h3⟩ := h
  generalize run init A = r at h1 h2 h3
  obtain ⟨rn, ro, rs, rq⟩ := r
  simp only at h1 h2 h3
  subst h1 h2 h3
  exact run_shift B rn 0 rs rq
theorem fine_two {A B : List Int} {st q : Nat} (hb : Bytes' (A ++ B)) (h : RunAt A st q) : fineR (run ⟨0, true, st, q⟩ B) = conf (A ++ B) := by
  obtain ⟨h1, h2, _⟩ := run_two (B := B) h
  rw [← fine_conf _ hb]
  unfold fineR
  rw [h1, h2]
theorem runAt_next {A B : List Int} {st q : Nat} (h : RunAt A st q) (hf : fineR (run ⟨0, true, st, q⟩ B) = true) : RunAt (A ++ B) (run ⟨0, true, st, q⟩ B).st (run ⟨0, true, st, q⟩ B).seen := by
  obtain ⟨h1, h2, h3⟩ := run_two (B := B) h
  unfold fineR at hf
  rw [Bool.and_eq_true] at hf
  exact ⟨h1.trans hf.1, h2, h3⟩
theorem fin_lt {r : R} (hf : fineR r = true) : r.st < 5 := by
  unfold fineR finSt at hf
  rw [Bool.and_eq_true] at hf
  have := hf.2
  simp at this
  omega

/-- The rows that SpanAll builds, beside its Transformer. -/
def St (w wr : World) (gc kc cc gs ks cs st q : Nat) (ns ss : List Value) : Prop :=
  OwnV wr 3 gc kc cc ns ∧ OwnV wr 3 gs ks cs ss ∧ w.heap.size < gc ∧ w.heap.size < gs ∧ gc ≠ gs ∧ Tf wr w.heap.size (.bool false) st q ∧ Below w.heap.size w wr
theorem St.src {w wr wA : World} {gc kc cc gs ks cs st q : Nat} {ns ss : List Value} (h : St w wr gc kc cc gs ks cs st q ns ss) {o : Obj} (hg : (wr.alloc o).grownBy wA (some wr.heap.size)) : St w wA gc kc cc gs ks cs st q ns ss := by
  obtain ⟨h1, h2, h3, h4, h5, h6, h7⟩ := h
  have l1 := h1.lt; have l2 := h2.lt; have l3 := h6.lt
  have hb : Below wr.heap.size wr wA := ((Below.refl _ _).alloc (Nat.le_refl _) o).trans (below_grown hg (Nat.le_refl _) (by simp))
  exact ⟨h1.below hb, h2.below hb, h3, h4, h5, (hb.block _ l3).trans h6, h7.trans (hb.mono h7.size)⟩
theorem St.span {w wr wS : World} {gc kc cc gs ks cs st q st' q' : Nat} {ns ss : List Value} (h : St w wr gc kc cc gs ks cs st q ns ss) (hf : Tf wS w.heap.size (.bool false) st' q') (hg : wr.grownBy wS (some w.heap.size)) : St w wS gc kc cc gs ks cs st' q' ns ss := by
  obtain ⟨h1, h2, h3, h4, h5, h6, h7⟩ := h
  exact ⟨h1.keep (hg.block _ h1.lt (by simp; omega)), h2.keep (hg.block _ h2.lt (by simp; omega)), h3, h4, h5, hf, h7.trans (below_grown hg (Nat.le_refl _) h7.size)⟩
theorem St.count {w wr wC : World} {gc kc cc gs ks cs st q g' k' c' : Nat} {ns ss ns' : List Value} (h : St w wr gc kc cc gs ks cs st q ns ss) {o : Obj} (hg : (wr.alloc o).grownBy wC (some gc)) (hown : OwnV wC 3 g' k' c' ns') (hgg : g' = gc ∨ g' = wr.heap.size + 1) :
    St w wC g' k' c' gs ks cs st q ns' ss := by
  obtain ⟨h1, h2, h3, h4, h5, h6, h7⟩ := h
  have l1 := h1.lt; have l2 := h2.lt; have l3 := h6.lt
  have hsz : (wr.alloc o).heap.size = wr.heap.size + 1 := Array.size_push _
  refine ⟨hown, (h2.alloc o).keep (hg.block _ (by omega) (by simp; omega)), by omega, h4, by omega, (hg.block _ (by omega) (by simp; omega)).trans (h6.alloc o), (h7.alloc h7.size o).trans (below_grown hg (by omega) (by have := h7.size; omega))⟩
theorem St.said {w wr wC : World} {gc kc cc gs ks cs st q g' k' c' : Nat} {ns ss ss' : List Value} (h : St w wr gc kc cc gs ks cs st q ns ss) {o : Obj} (hg : (wr.alloc o).grownBy wC (some gs)) (hown : OwnV wC 3 g' k' c' ss') (hgg : g' = gs ∨ g' = wr.heap.size + 1) :
    St w wC gc kc cc g' k' c' st q ns ss' := by
  obtain ⟨h1, h2, h3, h4, h5, h6, h7⟩ := h
  have l1 := h1.lt; have l2 := h2.lt; have l3 := h6.lt
  have hsz : (wr.alloc o).heap.size = wr.heap.size + 1 := Array.size_push _
  refine ⟨(h1.alloc o).keep (hg.block _ (by omega) (by simp; omega)), hown, h3, by omega, by omega, (hg.block _ (by omega) (by simp; omega)).trans (h6.alloc o), (h7.alloc h7.size o).trans (below_grown hg (by omega) (by have := h7.size; omega))⟩

def lens (Ps : List Pc) : List Value := Ps.map fun p => .int .i64 p.n
def zeros (k : Nat) : List Value := List.replicate k (.int .i64 0)
theorem lens_snoc (Ps : List Pc) (k : Nat) (p : Pc) (h : Ps[k]? = some p) : lens (Ps.take (k + 1)) = lens (Ps.take k) ++ [.int .i64 p.n] := by
  obtain ⟨hk, hp⟩ := List.getElem?_eq_some_iff.1 h
  unfold lens
  rw [List.take_succ_eq_append_getElem hk, hp]; simp
theorem zeros_snoc (k : Nat) : zeros (k + 1) = zeros k ++ [.int .i64 0] := by unfold zeros; rw [List.replicate_succ']
def SpanAllPost (w : World) (Ps : List Pc) (e : Ending) (w' : World) : Prop :=
  ∃ gc cc gs cs ns ss, e = .returned (.tuple #[.slice (some ⟨gc, 0, none⟩) Ps.length cc, .slice (some ⟨gs, 0, none⟩) Ps.length cs]) ∧ OwnV w' 3 gc Ps.length cc ns ∧ OwnV w' 3 gs Ps.length cs ss ∧ Below w.heap.size w w' ∧
    ((conf (jn Ps) = true ∧ ns = lens Ps ∧ ss = zeros Ps.length) ∨ (conf (jn Ps) = false ∧ ∃ (rn : Nat) (K : Nat), Ps.length = K + 1 ∧ ns = lens (Ps.take K) ++ [.int .i64 rn] ∧ ss = zeros K ++ [.int .i64 1]))
end Go.Proofs.YtoceibpgapjhcaaDoor
