/- A slice of slices of bytes that came in, as pieces in memory; what its bulk bounds. -/
import Derived.Test.YtoceibpgapjhcaaDoorFrame2
import Derived.Test.YtoceibpgapjhcaaDoorPcs
import Derived.Deep.Slices
namespace Go.Proofs.YtoceibpgapjhcaaDoor
open Go.ChangeShapes Go.WideShapes Go.ChangeAt Go.RowKit
open Go.Deep
set_option linter.unusedVariables false

theorem bulk_lits {H : Type} (k : IntKind) (l : List Int) : Rows.uptoBulkAll (lits k l : List (DataW H)) = l.length := by
  induction l with
  | nil => simp [lits, Rows.uptoBulkAll]
  | cons c t ih =>
    have e : (lits k (c :: t) : List (DataW H)) = .lit (.int k c) :: lits k t := rfl
    rw [e, Rows.uptoBulkAll, ih, Rows.uptoBulk, List.length_cons]
    · omega
    · intro b hb; cases hb
theorem bulk_len {H : Type} (f : Nat → Pc) (D : Nat → DataW H) (l : List Nat) (h : ∀ i ∈ l, (f i).L.length + 1 ≤ Rows.uptoBulk (D i)) : (jn (l.map f)).length + l.length ≤ Rows.uptoBulkAll (l.map D) := by
  induction l with
  | nil => simp [jn, Rows.uptoBulkAll]
  | cons c t ih =>
    have h1 := h c (by simp)
    have h2 := ih (fun i hi => h i (by simp [hi]))
    simp only [List.map_cons, Rows.uptoBulkAll, List.length_cons]
    have e : (jn (f c :: t.map f)).length = (f c).L.length + (jn (t.map f)).length := by simp [jn]
    rw [e]; omega

section
variable {H : Type} {enc : TypeId × Value → H} {W : World}
theorem open_piece {n : Nat} {v : Value} {d : DataW H} {pl : List MemPlace} (h : DataW.trod enc Tryd.prog W 0 (fun _ => true) true n 22 [v] = some (d, pl)) : ∃ p : Pc, v = p.v ∧ Lab W p.v p.L ∧ p.L.length + 1 ≤ Rows.uptoBulk d := by
  rcases open_ints Tryd.underlying22 Tryd.underlying5 (by kernel_rfl) h with ⟨hcs, hx⟩ | ⟨x, l, c, zs, hcs, _, hl, hm, hz, hx, hcell, hwz⟩
  · simp only [List.cons.injEq, and_true] at hcs
    subst hcs
    simp only [Prod.mk.injEq] at hx
    obtain ⟨rfl, _⟩ := hx
    exact ⟨⟨none, 0, 0, []⟩, rfl, ⟨by simp [Bytes], .inl ⟨none, 0, rfl, rfl, fun _ => rfl⟩⟩, by simp [Rows.uptoBulk]⟩
  · simp only [List.cons.injEq, and_true] at hcs
    subst hcs
    simp only [Prod.mk.injEq] at hx
    obtain ⟨rfl, _⟩ := hx
    refine ⟨⟨some x, l, c, zs.take l⟩, rfl, lab_of (.inr ⟨x, rfl, hl, hm, by simpa using hz, hcell, hwz⟩), ?_⟩
    simp only [Rows.uptoBulk, bulk_lits]
    omega
theorem open_pieces {a : Option Addr} {len cap : Nat} {d : DataW H} {p : List MemPlace} (h : DataW.Trod enc Tryd.prog W 0 (fun _ => true) true 35 (.slice a len cap) d p) :
    (a = none ∧ len = 0 ∧ cap = 0) ∨ ∃ (x : Addr) (f : Nat → Pc), a = some x ∧ len ≤ cap ∧ cap ≤ maxLen ∧ (∀ i, i < len → W.cell? (x.add i) = some (f i).v ∧ Lab W (f i).v (f i).L) ∧ (jn ((List.range len).map f)).length + len ≤ Rows.uptoBulk d := by
  obtain ⟨fuel, hf⟩ := h
  rcases open_slice1 Tryd.underlying35 (by kernel_rfl) hf with ⟨hcs, _⟩ | ⟨x, l, c, m, n, V, D, Pl, hcs, _, hl, hm, hmm, hx, hall⟩
  · simp [Value.cells] at hcs
    exact .inl hcs
  · simp [Value.cells] at hcs
    obtain ⟨rfl, rfl, rfl⟩ := hcs
    simp only [if_true] at hmm
    subst hmm
    simp only [Prod.mk.injEq] at hx
    obtain ⟨rfl, _⟩ := hx
    have hex : ∀ i, ∃ q : Pc, i < len → (V i = q.v ∧ Lab W q.v q.L ∧ q.L.length + 1 ≤ Rows.uptoBulk (D i)) := by
      intro i
      by_cases hi : i < len
      · obtain ⟨q, hq⟩ := open_piece (hall i (by omega)).2
        exact ⟨q, fun _ => hq⟩
      · exact ⟨⟨none, 0, 0, []⟩, fun h => absurd h hi⟩
    refine .inr ⟨x, fun i => (hex i).choose, rfl, hl, hm, fun i hi => ?_, ?_⟩
    · have hq := (hex i).choose_spec hi
      exact ⟨(hall i (by omega)).1.trans (congrArg some hq.1), hq.2.1⟩
    · have := bulk_len (fun i => (hex i).choose) D (List.range len) (fun i hi => ((hex i).choose_spec (List.mem_range.1 hi)).2.2)
      simp only [List.length_range] at this
      simp only [Rows.uptoBulk]
      omega
end
end Go.Proofs.YtoceibpgapjhcaaDoor
