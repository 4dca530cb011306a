/- append as one step of a region that draws its order: the laws of ..Base in the step's shape. -/
import Derived.Test.YtoceibpgapjhcaaDoorBase
import Derived.Deep.RegionLaw
namespace Go.Proofs.YtoceibpgapjhcaaDoor
open Go.RowKit
set_option linter.unusedVariables false

/-- 'append(x, y...)': x a row of the call's own, y whatever. -/
theorem step_append_row {P : Program} {w : World} {ops : Array Oper} {o : Oper} {a : Act} {K : Act → World → Prop} {Q : Exit → Act → World → Prop} {E : Prop} (hgd : Region.wanted o (yielded ops a.tmps) = true) (s x : Operand) (t : TypeId)
    (ho : o.op = .call { callee := .builtin .append, args := #[s, x], argTypes := #[t, t] })
    (e : TypeId) (i : TypeInfo) (z : Value) (bytes : Nat) (ht : P.underlying t = some (.slice e)) (hi : P.info? e = some i) (hz : i.zero = some z) (hsize : i.size = 1) (hby : i.bytes = bytes) (hzs : z.cells.size = 1)
    (g n cap : Nat) (xs : List Value) (hs : a.eval s = .slice (some ⟨g, 0, none⟩) n cap) (hown : OwnV w e g n cap xs)
    (b : Option Addr) (m c : Nat) (news : List Value) (hx : a.eval x = .slice b m c) (hr : Reads w b m c news) (h1 : ∀ u ∈ news, u.oneCell' = true) (r : Nat) (hnm : n + m = r) (hfit : r * bytes ≤ 140737488355328) (h63 : r ≤ maxLen)
    (h : ∀ g' cap' w', (g' = g ∨ g' = w.heap.size) → OwnV w' e g' r cap' (xs ++ news) → w.grownBy w' (some g) → K (a.put o.dst (.slice (some ⟨g', 0, none⟩) r cap')) w') :
    if Region.wanted o (yielded ops a.tmps) = true then Oper.wp P o a w K Q else E := by
  have hrow := hown.row
  obtain ⟨hxl, cur, hg, hnc, hcm, hcs, htake⟩ := hown
  obtain ⟨hnl, hr⟩ := hr
  subst hnm
  subst hby
  have go : ∀ v' w', (Builtin.append_ #[t, t] o.type #[.slice (some ⟨g, 0, none⟩) n cap, .slice b m c]).run P w = .ok v' w' → K (a.put o.dst v') w' → if Region.wanted o (yielded ops a.tmps) = true then Oper.wp P o a w K Q else E := by
    intro v' w' hrun hk
    rw [if_pos hgd]
    unfold Oper.wp execOp
    simp only [ho, resolve, invoke, builtin, Sem.run_bind, Sem.run_pure, Result.andThen_ok, List.map_toArray, List.map_cons, List.map_nil, hs, hx, hrun]
    exact hk
  rcases hr with ⟨rfl, rfl, rfl⟩ | ⟨ad, rfl, hc⟩
  · have hn0 : news = [] := List.eq_nil_of_length_eq_zero hnl
    subst hn0
    refine go _ _ (run_append_owned_none (P := P) (w := w) g t o.type e i 1 ht hi _ n xs hrow) ?_
    exact h g cap w (.inl rfl) ⟨by simpa using hxl, cur, hg, hnc, hcm, hcs, by simpa using htake⟩ ⟨rfl, rfl, rfl, Nat.le_refl _, fun _ _ _ => rfl⟩
  · by_cases hroom : n + m ≤ cap
    · have hrun := run_append_room (P := P) w t o.type e i ht hi g n cap cur hg ad m c news (by rw [hsize]; omega) hc h1 hroom (by rw [hsize]; omega)
      refine go _ _ hrun (h g cap _ (.inl rfl) ⟨by simp [hxl, hnl], _, setRow_heap w g cur _ e _ hg, hroom, hcm, ?_, ?_⟩ ⟨rfl, rfl, rfl, by simp, fun k _ hk => setRow_other w g k _ (fun e => hk (by simp [e]))⟩)
      · simp [hsize]; omega
      · simp only [hsize, Nat.mul_one, htake]
        rw [List.take_append_of_le_length (by simp [hxl, hnl])]
        exact List.take_of_length_le (by simp [hxl, hnl])
    · have hrun := run_append_grow (P := P) w t o.type e i z ht hi hz ⟨g, 0, none⟩ n cap xs (by rw [hsize]; omega) (fun j u hu => hrow.cells (g := g) rfl j u hu) ad m c news (by rw [hsize]; omega) hc (by omega) (by simp only [maxLen] at h63; omega) (growslice_fits (by omega) hfit)
      have hge := grownCap_ge w (n + m) cap e
      refine go _ _ hrun (h w.heap.size _ _ (.inr rfl) ⟨by simp [hxl, hnl], _, heap_alloc_new w.drew _, hge, grownCap_le_maxLen w (n + m) cap e h63, ?_, ?_⟩ ⟨rfl, rfl, rfl, by simp, fun k hk _ => Below.heap_alloc w.drew _ k hk⟩)
      · simp only [Array.size_append, List.size_toArray, size_zeroCells, hzs, hxl, hnl]
        omega
      · simp only [Array.toList_append]
        rw [List.take_append_of_le_length (by simp [hxl, hnl])]
        exact List.take_of_length_le (by simp [hxl, hnl])

/-- 'append(x, label...)', both of bytes. -/
theorem step_append_lab {P : Program} {w : World} {ops : Array Oper} {o : Oper} {a : Act} {K : Act → World → Prop} {Q : Exit → Act → World → Prop} {E : Prop} (hgd : Region.wanted o (yielded ops a.tmps) = true) (s x : Operand) (t : TypeId)
    (ho : o.op = .call { callee := .builtin .append, args := #[s, x], argTypes := #[t, t] })
    (e : TypeId) (i : TypeInfo) (ht : P.underlying t = some (.slice e)) (hi : P.info? e = some i) (hz : i.zero = some (.int .u8 0)) (hsize : i.size = 1) (hby : i.bytes = 1)
    (g n cap : Nat) (xs : List Int) (hs : a.eval s = .slice (some ⟨g, 0, none⟩) n cap) (hown : Own w e g n cap xs)
    (b : Option Addr) (m c : Nat) (L : List Int) (hx : a.eval x = .slice b m c) (hlab : Lab w (.slice b m c) L) (r : Nat) (hr : n + m = r) (hfit : r ≤ 140737488355328)
    (h : ∀ g' cap' w', (g' = g ∨ g' = w.heap.size) → Own w' e g' r cap' (xs ++ L) → w.grownBy w' (some g) → K (a.put o.dst (.slice (some ⟨g', 0, none⟩) r cap')) w') :
    if Region.wanted o (yielded ops a.tmps) = true then Oper.wp P o a w K Q else E :=
  step_append_row hgd s x t ho e i _ 1 ht hi hz hsize hby rfl g n cap _ hs hown.2 b m c _ hx hlab.reads (fun u hu => by obtain ⟨_, _, rfl⟩ := List.mem_map.1 hu; rfl) r hr (by omega) (by simp only [maxLen]; omega)
    fun g' cap' w' h1 h2 h3 => h g' cap' w' h1 ⟨hown.1.append hlab.1, by simpa using h2⟩ h3
end Go.Proofs.YtoceibpgapjhcaaDoor
