/- Labels in memory: a slice of bytes that reads as a list of numbers ('Lab'), one that the call itself made ('Own'), and what append makes of them. Over any program. Condition: at most 140737488355328 bytes. -/
import Derived.WalkKit
import Derived.WalkSpells
import Derived.WalkLawsBesides
import Derived.Lib.Hide
import Derived.Laws.AppendOwnNone
namespace Go.Proofs.YtoceibpgapjhcaaDoor
open Go.RowKit

theorem ret_bool {a b : Bool} (h : a = b) : Ending.returned (.bool a) = .returned (.bool b) := by rw [h]

theorem take_snoc (L : List Int) (k : Nat) (h : k < L.length) : L.take (k + 1) = L.take k ++ [L[k]?.getD 0] := by
  rw [List.take_succ_eq_append_getElem h]; simp [h]
theorem split_at (L : List Int) (k : Nat) (h : k < L.length) : L = L.take k ++ L[k]?.getD 0 :: L.drop (k + 1) := by
  have h1 : L.drop k = L[k]?.getD 0 :: L.drop (k + 1) := by rw [List.drop_eq_getElem_cons h]; simp [h]
  rw [← h1, List.take_append_drop]

def Bytes (L : List Int) : Prop := ∀ c ∈ L, 0 ≤ c ∧ c < 256
theorem Bytes.at {L : List Int} (h : Bytes L) {k : Nat} (hk : k < L.length) : 0 ≤ L[k]?.getD 0 ∧ L[k]?.getD 0 < 256 := by
  have := h L[k] (List.getElem_mem hk); simpa [hk] using this
theorem Bytes.append {L M : List Int} (h : Bytes L) (h' : Bytes M) : Bytes (L ++ M) := by
  intro c hc; rcases List.mem_append.1 hc with h1 | h1
  · exact h c h1
  · exact h' c h1

/-- A label that lies in memory: the value of a slice of bytes, and the numbers that it reads as. -/
def Lab (w : World) (v : Value) (L : List Int) : Prop :=
  Bytes L ∧ ((∃ a cap, v = .slice a 0 cap ∧ L = [] ∧ (a = none → cap = 0)) ∨
  ∃ b off cap, v = .slice (some ⟨b, off, none⟩) L.length cap ∧ 0 < L.length ∧ ∀ i, i < L.length → w.cell? ⟨b, off + i, none⟩ = some (.int .u8 (L[i]?.getD 0)))

theorem Lab.len {w : World} {a : Option Addr} {n cap : Nat} {L : List Int} (h : Lab w (.slice a n cap) L) : L.length = n := by
  obtain ⟨_, ⟨a', cap', hv, hL, _⟩ | ⟨b, off, cap', hv, _⟩⟩ := h
  · injection hv with h1 h2 h3; subst hL; simp [h2]
  · injection hv with h1 h2 h3; exact h2.symm

theorem Lab.keep {w w' : World} {v : Value} {L : List Int} (h : Lab w v L) (hc : ∀ b off x, w.cell? ⟨b, off, none⟩ = some x → w'.cell? ⟨b, off, none⟩ = some x) : Lab w' v L := by
  obtain ⟨hb, h | ⟨b, off, cap, hv, h0, hcell⟩⟩ := h
  · exact ⟨hb, .inl h⟩
  · exact ⟨hb, .inr ⟨b, off, cap, hv, h0, fun i hi => hc _ _ _ (hcell i hi)⟩⟩

/-- In a later world in which no old block has turned. -/
theorem Lab.below {w w' : World} {v : Value} {L : List Int} (h : Lab w v L) (hb : Below w.heap.size w w') : Lab w' v L :=
  h.keep fun b off _ hx => (hb.cell (p := ⟨b, off, none⟩) (World.block_lt_of_cell? w _ hx)).trans hx

/-- A row of one-cell elements of the call's own, at the head of block g. -/
def OwnV (w : World) (e : TypeId) (g n cap : Nat) (xs : List Value) : Prop :=
  xs.length = n ∧ ∃ cur : Array Value, w.heap[g]? = some (.cells cur e (0, 0)) ∧ n ≤ cap ∧ cap ≤ maxLen ∧ cur.size = cap ∧ cur.toList.take n = xs
/-- A row of bytes of the call's own. -/
def Own (w : World) (e : TypeId) (g n cap : Nat) (L : List Int) : Prop := Bytes L ∧ OwnV w e g n cap (L.map (Value.int .u8))

theorem OwnV.row {w : World} {e : TypeId} {g n cap : Nat} {xs : List Value} (h : OwnV w e g n cap xs) : w.ownsRow g e 1 (.slice (some ⟨g, 0, none⟩) n cap) n xs := by
  obtain ⟨hl, cur, hg, h1, h2, h3, h4⟩ := h
  exact ⟨by simp [hl], .inr ⟨g, cap, cur, rfl, Nat.le_refl _, hg, h1, h2, by omega, by simpa using h4⟩⟩
theorem OwnV.lt {w : World} {e : TypeId} {g n cap : Nat} {xs : List Value} (h : OwnV w e g n cap xs) : g < w.heap.size := by
  obtain ⟨_, cur, hg, _⟩ := h; exact lt_of_block hg
theorem add_zero_off (g j : Nat) : (⟨g, 0, none⟩ : Addr).add j = ⟨g, j, none⟩ := by unfold Addr.add; split <;> simp_all
theorem OwnV.cells {w : World} {e : TypeId} {g n cap : Nat} {xs : List Value} (h : OwnV w e g n cap xs) (i : Nat) (u : Value) (hu : xs[i]? = some u) : w.cell? ⟨g, i, none⟩ = some u := by
  have := h.row.cells (g := g) rfl i u hu
  rwa [add_zero_off] at this
theorem OwnV.keep {w w' : World} {e : TypeId} {g n cap : Nat} {xs : List Value} (h : OwnV w e g n cap xs) (hb : w'.heap[g]? = w.heap[g]?) : OwnV w' e g n cap xs := by
  obtain ⟨h2, cur, hg, h3⟩ := h; exact ⟨h2, cur, hb.trans hg, h3⟩
theorem OwnV.below {w w' : World} {e : TypeId} {g n cap : Nat} {xs : List Value} (h : OwnV w e g n cap xs) (hb : Below w.heap.size w w') : OwnV w' e g n cap xs := h.keep (hb.block g h.lt)
theorem OwnV.alloc {w : World} {e : TypeId} {g n cap : Nat} {xs : List Value} (h : OwnV w e g n cap xs) (o : Obj) : OwnV (w.alloc o) e g n cap xs := h.keep (Below.heap_alloc w o g h.lt)

theorem Own.lt {w : World} {e : TypeId} {g n cap : Nat} {L : List Int} (h : Own w e g n cap L) : g < w.heap.size := h.2.lt
theorem Own.len {w : World} {e : TypeId} {g n cap : Nat} {L : List Int} (h : Own w e g n cap L) : L.length = n := by have := h.2.1; simpa using this
theorem Own.cell {w : World} {e : TypeId} {g n cap : Nat} {L : List Int} (h : Own w e g n cap L) (i : Nat) (hi : i < n) : w.cell? ⟨g, i, none⟩ = some (.int .u8 (L[i]?.getD 0)) := by
  have hl := h.len
  exact h.2.cells i _ (by simp [show i < L.length by omega])
theorem Own.lab {w : World} {e : TypeId} {g n cap : Nat} {L : List Int} (h : Own w e g n cap L) : Lab w (.slice (some ⟨g, 0, none⟩) n cap) L := by
  refine ⟨h.1, ?_⟩
  have hl := h.len
  by_cases h0 : n = 0
  · exact .inl ⟨_, cap, by rw [h0], List.eq_nil_of_length_eq_zero (by omega), fun h => by cases h⟩
  · exact .inr ⟨g, 0, cap, by rw [hl], by omega, fun i hi => by simpa using h.cell i (by omega)⟩
theorem Own.keep {w w' : World} {e : TypeId} {g n cap : Nat} {L : List Int} (h : Own w e g n cap L) (hb : w'.heap[g]? = w.heap[g]?) : Own w' e g n cap L := ⟨h.1, h.2.keep hb⟩
theorem Own.below {w w' : World} {e : TypeId} {g n cap : Nat} {L : List Int} (h : Own w e g n cap L) (hb : Below w.heap.size w w') : Own w' e g n cap L := h.keep (hb.block g h.lt)
theorem Own.alloc {w : World} {e : TypeId} {g n cap : Nat} {L : List Int} (h : Own w e g n cap L) (o : Obj) : Own (w.alloc o) e g n cap L := h.keep (Below.heap_alloc w o g h.lt)

/-- A slice literal. -/
theorem ownV_lit {e : TypeId} (w : World) (xs : List Value) (hl : xs.length ≤ maxLen) : OwnV (w.alloc (.cells xs.toArray e)) e w.heap.size xs.length xs.length xs :=
  ⟨rfl, _, heap_alloc_new w _, Nat.le_refl _, hl, by simp, by simp⟩
theorem own_empty {e : TypeId} (w : World) : Own (w.alloc (.cells #[] e)) e w.heap.size 0 0 [] := ⟨by simp [Bytes], ownV_lit w [] (by simp)⟩
theorem own_one {e : TypeId} (w : World) (c : Int) (h0 : 0 ≤ c) (h1 : c < 256) : Own (w.alloc (.cells #[.int .u8 c] e)) e w.heap.size 1 1 [c] := ⟨by simp [Bytes]; omega, ownV_lit w [.int .u8 c] (by simp [maxLen])⟩

theorem below_grown {w w' : World} {g B : Nat} (hg : w.grownBy w' (some g)) (hB : B ≤ g) (hs : B ≤ w.heap.size) : Below B w w' :=
  (Below.refl B w).grown hg hs (fun k hk => by cases hk; exact hB)

/-- What a source of append yields. -/
def Reads (w : World) (b : Option Addr) (m c : Nat) (news : List Value) : Prop :=
  news.length = m ∧ ((b = none ∧ m = 0 ∧ c = 0) ∨ ∃ ad, b = some ad ∧ ∀ j u, news[j]? = some u → w.cell? (ad.add j) = some u)
theorem OwnV.reads {w : World} {e : TypeId} {g n cap : Nat} {xs : List Value} (h : OwnV w e g n cap xs) : Reads w (some ⟨g, 0, none⟩) n cap xs :=
  ⟨h.1, .inr ⟨_, rfl, fun j u hu => by rw [add_zero_off]; exact h.cells j u hu⟩⟩
theorem Lab.reads {w : World} {b : Option Addr} {m c : Nat} {L : List Int} (h : Lab w (.slice b m c) L) : Reads w b m c (L.map (Value.int .u8)) := by
  refine ⟨by simpa using h.len, ?_⟩
  rcases h.2 with ⟨a, cap, hv, hL, hn⟩ | ⟨bb, off, cap, hv, h0, hc⟩
  · injection hv with h1 h2 h3
    subst h1 h2 h3 hL
    rcases b with _ | b
    · exact .inl ⟨rfl, rfl, hn rfl⟩
    · exact .inr ⟨b, rfl, fun j u hu => by simp at hu⟩
  · injection hv with h1 h2 h3
    subst h1 h2 h3
    refine .inr ⟨_, rfl, fun j u hu => ?_⟩
    have hj : j < L.length := by
      rcases Nat.lt_or_ge j L.length with h | h
      · exact h
      · rw [List.getElem?_eq_none (by simpa using h)] at hu; cases hu
    have := hc j hj
    have e2 : (⟨bb, off, none⟩ : Addr).add j = ⟨bb, off + j, none⟩ := by unfold Addr.add; split <;> simp_all
    rw [e2, this]; simp [hj] at hu; simp [hj, hu]

/-- 'append(x, y...)': x a row of the call's own, y whatever. -/
theorem wpList_append_row {P : Program} {w : World} {ops : Array Oper} {rest : List Oper} {o : Oper} {a : Act} {Q : Exit → Act → World → Prop} (hgd : Region.wanted o (yielded ops a.tmps) = true) (s x : Operand) (t : TypeId)
    (ho : o.op = .call { callee := .builtin .append, args := #[s, x], argTypes := #[t, t] })
    (e : TypeId) (i : TypeInfo) (z : Value) (bytes : Nat) (ht : P.underlying t = some (.slice e)) (hi : P.info? e = some i) (hz : i.zero = some z) (hsize : i.size = 1) (hby : i.bytes = bytes) (hzs : z.cells.size = 1)
    (g n cap : Nat) (xs : List Value) (hs : a.eval s = .slice (some ⟨g, 0, none⟩) n cap) (hown : OwnV w e g n cap xs)
    (b : Option Addr) (m c : Nat) (news : List Value) (hx : a.eval x = .slice b m c) (hr : Reads w b m c news) (h1 : ∀ u ∈ news, u.oneCell' = true) (r : Nat) (hnm : n + m = r) (hfit : r * bytes ≤ 140737488355328) (h63 : r ≤ maxLen)
    (h : ∀ g' cap' w', (g' = g ∨ g' = w.heap.size) → OwnV w' e g' r cap' (xs ++ news) → w.grownBy w' (some g) → wpList P ops Q rest (a.put o.dst (.slice (some ⟨g', 0, none⟩) r cap')) w') :
    wpList P ops Q (o :: rest) a w := by
  have hrow := hown.row
  obtain ⟨hxl, cur, hg, hnc, hcm, hcs, htake⟩ := hown
  obtain ⟨hnl, hr⟩ := hr
  subst hnm
  subst hby
  have go : ∀ v' w', (Builtin.append_ #[t, t] o.type #[.slice (some ⟨g, 0, none⟩) n cap, .slice b m c]).run P w = .ok v' w' → wpList P ops Q rest (a.put o.dst v') w' → wpList P ops Q (o :: rest) a w := by
    intro v' w' hrun hk
    refine wpList_step fun K hK => ?_
    rw [if_pos hgd]
    unfold Oper.wp execOp
    simp only [ho, resolve, invoke, builtin, Sem.run_bind, Sem.run_pure, Result.andThen_ok, List.map_toArray, List.map_cons, List.map_nil, hs, hx, hrun]
    exact hK _ _ hk
  rcases hr with ⟨rfl, rfl, rfl⟩ | ⟨ad, rfl, hc⟩
  · have hn0 : news = [] := List.eq_nil_of_length_eq_zero hnl
    subst hn0
    refine go _ _ (run_append_owned_none (P := P) (w := w) g t o.type e i 1 ht hi _ n xs hrow) ?_
    exact h g cap w (.inl rfl) ⟨by simpa using hxl, cur, hg, hnc, hcm, hcs, by simpa using htake⟩ ⟨rfl, rfl, rfl, Nat.le_refl _, fun _ _ _ => rfl⟩
  · by_cases hroom : n + m ≤ cap
    · have hrun := run_append_room (P := P) w t o.type e i ht hi g n cap cur hg ad m c news (by rw [hsize]; omega) hc h1 hroom (by rw [hsize]; omega)
      refine go _ _ hrun (h g cap _ (.inl rfl) ⟨by simp [hxl, hnl], _, setRow_heap w g cur _ e _ hg, hroom, hcm, ?_, ?_⟩ ⟨rfl, rfl, rfl, by simp, fun k _ hk => setRow_other w g k _ (fun e => hk (by simp [e]))⟩)
      · simp [hsize]; omega
      · simp only [hsize, Nat.mul_one, htake]
        rw [List.take_append_of_le_length (by simp [hxl, hnl])]
        exact List.take_of_length_le (by simp [hxl, hnl])
    · have hrun := run_append_grow (P := P) w t o.type e i z ht hi hz ⟨g, 0, none⟩ n cap xs (by rw [hsize]; omega) (fun j u hu => hrow.cells (g := g) rfl j u hu) ad m c news (by rw [hsize]; omega) hc (by omega) (by simp only [maxLen] at h63; omega) (growslice_fits (by omega) hfit)
      have hge := grownCap_ge w (n + m) cap e
      refine go _ _ hrun (h w.heap.size _ _ (.inr rfl) ⟨by simp [hxl, hnl], _, heap_alloc_new w.drew _, hge, grownCap_le_maxLen w (n + m) cap e h63, ?_, ?_⟩ ⟨rfl, rfl, rfl, by simp, fun k hk _ => Below.heap_alloc w.drew _ k hk⟩)
      · simp only [Array.size_append, List.size_toArray, size_zeroCells, hzs, hxl, hnl]
        omega
      · simp only [Array.toList_append]
        rw [List.take_append_of_le_length (by simp [hxl, hnl])]
        exact List.take_of_length_le (by simp [hxl, hnl])

/-- 'append(x, label...)', both of bytes. -/
theorem wpList_append_lab {P : Program} {w : World} {ops : Array Oper} {rest : List Oper} {o : Oper} {a : Act} {Q : Exit → Act → World → Prop} (hgd : Region.wanted o (yielded ops a.tmps) = true) (s x : Operand) (t : TypeId)
    (ho : o.op = .call { callee := .builtin .append, args := #[s, x], argTypes := #[t, t] })
    (e : TypeId) (i : TypeInfo) (ht : P.underlying t = some (.slice e)) (hi : P.info? e = some i) (hz : i.zero = some (.int .u8 0)) (hsize : i.size = 1) (hby : i.bytes = 1)
    (g n cap : Nat) (xs : List Int) (hs : a.eval s = .slice (some ⟨g, 0, none⟩) n cap) (hown : Own w e g n cap xs)
    (b : Option Addr) (m c : Nat) (L : List Int) (hx : a.eval x = .slice b m c) (hlab : Lab w (.slice b m c) L) (r : Nat) (hr : n + m = r) (hfit : r ≤ 140737488355328)
    (h : ∀ g' cap' w', (g' = g ∨ g' = w.heap.size) → Own w' e g' r cap' (xs ++ L) → w.grownBy w' (some g) → wpList P ops Q rest (a.put o.dst (.slice (some ⟨g', 0, none⟩) r cap')) w') :
    wpList P ops Q (o :: rest) a w :=
  wpList_append_row hgd s x t ho e i _ 1 ht hi hz hsize hby rfl g n cap _ hs hown.2 b m c _ hx hlab.reads (fun u hu => by obtain ⟨_, _, rfl⟩ := List.mem_map.1 hu; rfl) r hr (by omega) (by simp only [maxLen]; omega)
    fun g' cap' w' h1 h2 h3 => h g' cap' w' h1 ⟨hown.1.append hlab.1, by simpa using h2⟩ h3
end Go.Proofs.YtoceibpgapjhcaaDoor
