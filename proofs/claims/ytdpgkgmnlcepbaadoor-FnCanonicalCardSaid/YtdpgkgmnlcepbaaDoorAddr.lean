/- What impl.CanonicalAddr returns at a name, and at a name with a port behind it. -/
import Derived.Test.YtdpgkgmnlcepbaaDoorCanon
namespace Go.Proofs.YtdpgkgmnlcepbaaDoor
open Go.RowKit
set_option linter.unusedVariables false

theorem lists (n p : ByteArray) : (n ++ ⟨#[58]⟩ ++ p).data.toList = n.data.toList ++ 58 :: p.data.toList := by
  rw [cat, cat, List.append_assoc]; rfl
theorem size_list (s : ByteArray) : s.data.toList.length = s.size := by simp
theorem sizes (n p : ByteArray) : (n ++ ⟨#[58]⟩ ++ p).size = n.size + 1 + p.size := by
  rw [← size_list, lists, List.length_append, List.length_cons, size_list, size_list]; omega
theorem dg_58 {b : UInt8} (h : dgB b = true) : (b.toNat : Int) ≠ 58 := by
  unfold dgB dg at h
  simp at h
  omega
theorem nm_58i {b : UInt8} (h : nm b = true) : (b.toNat : Int) ≠ 58 := by
  unfold nm at h
  simp [lo, dg] at h
  omega
theorem last_at (n p : ByteArray) (hp : Each dgB p.data.toList = true) : lastI (n ++ ⟨#[58]⟩ ++ p).data.toList 58 = n.size := by
  have e : (n ++ ⟨#[58]⟩ ++ p).data.toList = (n.data.toList ++ [58]) ++ p.data.toList := by rw [lists]; simp
  rw [e, lastI_none _ _ _ (fun b hb => dg_58 (List.all_eq_true.1 hp b hb)), lastI_snoc, if_pos (by rfl), size_list]
theorem last_no (n : ByteArray) (hn : Each nm n.data.toList = true) : lastI n.data.toList 58 = -1 :=
  lastI_all _ _ (fun b hb => nm_58i (List.all_eq_true.1 hn b hb))

theorem ex0 (n p : ByteArray) : (n ++ ⟨#[58]⟩ ++ p).extract 0 n.size = n := by
  apply bytes_eq
  rw [extract_list, lists, ← size_list n, List.take_left', List.drop_zero]
  rfl
theorem ex1 (n p : ByteArray) : (n ++ ⟨#[58]⟩ ++ p).extract (n.size + 1) (n ++ ⟨#[58]⟩ ++ p).size = p := by
  apply bytes_eq
  rw [extract_list, lists, sizes]
  have h1 : (n.data.toList ++ 58 :: p.data.toList).take (n.size + 1 + p.size) = n.data.toList ++ 58 :: p.data.toList := List.take_of_length_le (by simp; omega)
  rw [h1]
  have h2 : n.data.toList ++ 58 :: p.data.toList = (n.data.toList ++ [58]) ++ p.data.toList := by simp
  rw [h2]
  exact List.drop_left' (by simp)
theorem exv (n p : ByteArray) : ((n ++ ⟨#[58]⟩ ++ p).extract n.size (n ++ ⟨#[58]⟩ ++ p).size).data.toList = 58 :: p.data.toList := by
  rw [extract_list, lists, sizes]
  have h1 : (n.data.toList ++ 58 :: p.data.toList).take (n.size + 1 + p.size) = n.data.toList ++ 58 :: p.data.toList := List.take_of_length_le (by simp; omega)
  rw [h1]
  exact List.drop_left' (by simp)

theorem splits_port (n p : ByteArray) (hn1 : 1 ≤ n.size) (hn : n.size ≤ 100) (hd : Each nm n.data.toList = true) (hp : p.size ≤ 100) (hpd : Each dgB p.data.toList = true) : Splits (n ++ ⟨#[58]⟩ ++ p) n p := by
  intro w
  have hsz := sizes n p
  obtain ⟨v, hv⟩ : ∃ v, (n ++ ⟨#[58]⟩ ++ p).extract n.size (n ++ ⟨#[58]⟩ ++ p).size = v := ⟨_, rfl⟩
  have hvl := exv n p
  rw [hv] at hvl
  have hvs : v.size = p.size + 1 := by rw [← size_list v, hvl, List.length_cons, size_list]
  refine split_at_colon _ n p v n.size w (by omega) (by omega) (last_at n p hpd) hv (ex0 n p) (ex1 n p) hn1 (by omega) hd (by omega) (by omega) ?_ ?_
  · have : v[0]'(by omega) = 58 := by
      have h2 : v.data.toList[0]'(by rw [hvl]; simp) = 58 := by simp [hvl]
      exact h2
    rw [this]; rfl
  · rw [extract_list, List.take_of_length_le (by simp), hvl]
    exact hpd
theorem splits_none (n : ByteArray) (hn1 : 1 ≤ n.size) (hn : n.size ≤ 100) (hd : Each nm n.data.toList = true) : Splits n n ⟨#[]⟩ :=
  fun w => split_none n w (by omega) hn1 hd (last_no n hd)

theorem url_new (w : World) (sch host : ByteArray) (a b c d e f g h i : Value) : Url (w.alloc (.cells #[.string sch, a, b, .string host, c, d, e, f, g, h, i] 33)) w.heap.size sch host := by
  have hn := heap_alloc_new w (.cells #[.string sch, a, b, .string host, c, d, e, f, g, h, i] 33)
  constructor <;> (unfold World.cell?; rw [hn]; rfl)

def Canon (w : World) (sch host r : ByteArray) : Prop := ∀ b w', Url w' b sch host → Below w.heap.size w w' → Calls Tryd.prog 12 #[.pointer (some ⟨b, 0, none⟩)] w' fun e w'' => e = .returned (.string r) ∧ Below w'.heap.size w' w''

/-- The road through the URL that ZZCanonicalAddr makes. -/
theorem zz_any (sch host r : ByteArray) (w : World) (hc : Canon w sch host r) :
    Calls Tryd.prog 11 #[.string sch, .string host] w fun e w' => e = .returned (.string r) ∧ Below w.heap.size w w' := by
  have HC := Lib.hid hc; clear hc
  have HA : Hid (∀ o, Below w.heap.size w (w.alloc o)) := Lib.hid (fun o => (Below.refl _ _).alloc (Nat.le_refl _) o)
  go_enter Tryd.func11, Tryd.ntmps11
  go_wp2_with (go_at_call 12; refine (HC.out _ _ (url_new w sch host _ _ _ _ _ _ _ _ _) (HA.out _)).mono ?_; rintro e w' ⟨rfl, hb⟩; have HB := Lib.hid ((HA.out _).trans (hb.mono (HA.out _).size)); clear hb)
  go_ret
  exact ⟨rfl, HB.out⟩
theorem addr_any (sch host r : ByteArray) (w : World) (hc : Canon w sch host r) :
    Calls Tryd.prog 6 #[.string sch, .string host] w fun e w' => e = .returned (.string r) ∧ Below w.heap.size w w' := by
  have HC := Lib.hid hc; clear hc
  go_enter Tryd.func6, Tryd.ntmps6
  go_wp2_with (go_at_call 11; refine (zz_any sch host r _ HC.out).mono ?_; rintro e w' ⟨rfl, hb⟩; have HB := Lib.hid hb; clear hb)
  go_ret
  exact ⟨rfl, HB.out⟩

/-- The map of ports, in this world and in each later one. -/
def Door (w : World) (bm : Nat) : Prop := w.cell? ⟨0, 0, none⟩ = some (.map (some bm)) ∧ ∀ wx, Below w.heap.size w wx →
  (Instr.lookup 39 (.map (some bm)) (.string ⟨#[104, 116, 116, 112]⟩) false).run Tryd.prog wx = .ok (.string ⟨#[56, 48]⟩) wx ∧
  (Instr.lookup 39 (.map (some bm)) (.string ⟨#[104, 116, 116, 112, 115]⟩) false).run Tryd.prog wx = .ok (.string ⟨#[52, 52, 51]⟩) wx ∧
  (Instr.lookup 39 (.map (some bm)) (.string ⟨#[115, 111, 99, 107, 115, 53]⟩) false).run Tryd.prog wx = .ok (.string ⟨#[49, 48, 56, 48]⟩) wx
theorem Door.below {w w' : World} {bm : Nat} (h : Door w bm) (hb : Below w.heap.size w w') : Door w' bm :=
  ⟨(hb.cell (p := ⟨0, 0, none⟩) (World.block_lt_of_cell? w _ h.1)).trans h.1, fun wx hx => h.2 wx (hb.trans (hx.mono hb.size))⟩

theorem canon_of_port {n p : ByteArray} (w : World) (sch : ByteArray) (hn : Name n) (hp : Port p) : Canon w sch (n ++ ⟨#[58]⟩ ++ p) (n ++ ⟨#[58]⟩ ++ p) :=
  fun b w' hu hb => canon_port b sch _ n p w' hu (splits_port n p hn.2.2 hn.2.1 hn.1 (by have := hp.2.2; omega) hp.1) hn.2.2 hn.2.1 hn.1 hp.2.1 (by have := hp.2.2; omega)
theorem canon_of_none {n : ByteArray} {w : World} {bm : Nat} {sch v : ByteArray} (hn : Name n) (hv : v.size ≤ 100) (hc : w.cell? ⟨0, 0, none⟩ = some (.map (some bm)))
    (hl : ∀ wx, Below w.heap.size w wx → (Instr.lookup 39 (.map (some bm)) (.string sch) false).run Tryd.prog wx = .ok (.string v) wx) : Canon w sch n (n ++ ⟨#[58]⟩ ++ v) :=
  fun b w' hu hb => canon_none b bm sch n n v w' hu (splits_none n hn.2.2 hn.2.1 hn.1) hn.2.2 hn.2.1 hn.1 hv ((hb.cell (p := ⟨0, 0, none⟩) (World.block_lt_of_cell? w _ hc)).trans hc) (fun wx hx => hl wx (hb.trans (hx.mono hb.size)))

def Small (w : World) (e : Ending) (w' : World) : Prop := ∃ r : Nat, r < 3 ∧ e = .returned (.int .i64 r) ∧ w = w'
theorem mod_any (i : Int) (w : World) : Calls Tryd.prog 7 #[.int .i64 i, .int .i64 3] w (Small w) := by
  have h1 : -3 < Int.tmod i 3 ∧ Int.tmod i 3 < 3 := by
    have := Int.tmod_lt_of_pos i (b := 3) (by omega)
    have := Int.lt_tmod_of_pos i (b := 3) (by omega)
    omega
  obtain ⟨h2, h3⟩ := h1
  go_enter Tryd.func7, Tryd.ntmps7
  go_wp2
  go_ret
  exact ⟨((Int.tmod i 3 + 3) % 3).toNat, by omega, ret_int (by omega), rfl⟩

def sch (r : Nat) : ByteArray := if r = 0 then ⟨#[104, 116, 116, 112]⟩ else if r = 1 then ⟨#[104, 116, 116, 112, 115]⟩ else ⟨#[115, 111, 99, 107, 115, 53]⟩
def prt (r : Nat) : ByteArray := if r = 0 then ⟨#[56, 48]⟩ else if r = 1 then ⟨#[52, 52, 51]⟩ else ⟨#[49, 48, 56, 48]⟩
theorem portOf_any (r : Nat) (w : World) (hr : r < 3) : Calls Tryd.prog 8 #[.string (sch r)] w fun e w' => e = .returned (.string (prt r)) ∧ w = w' := by
  have : r = 0 ∨ r = 1 ∨ r = 2 := by omega
  rcases this with rfl | rfl | rfl
  all_goals
    simp only [sch, prt]
    go_enter Tryd.func8, Tryd.ntmps8
    go_wp2
    go_ret
    exact ⟨rfl, rfl⟩

theorem canon_at {n : ByteArray} {w : World} {bm : Nat} (r : Nat) (hr : r < 3) (hn : Name n) (hd : Door w bm) : Canon w (sch r) n (n ++ ⟨#[58]⟩ ++ prt r) := by
  have : r = 0 ∨ r = 1 ∨ r = 2 := by omega
  rcases this with rfl | rfl | rfl
  · exact canon_of_none hn (by decide) hd.1 (fun wx hx => (hd.2 wx hx).1)
  · exact canon_of_none hn (by decide) hd.1 (fun wx hx => (hd.2 wx hx).2.1)
  · exact canon_of_none hn (by decide) hd.1 (fun wx hx => (hd.2 wx hx).2.2)
end Go.Proofs.YtdpgkgmnlcepbaaDoor
