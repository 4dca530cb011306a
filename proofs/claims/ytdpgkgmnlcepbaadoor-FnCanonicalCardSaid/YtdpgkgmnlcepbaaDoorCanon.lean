/- What httpproxy.canonicalAddr returns at a host of which the split is known. -/
import Derived.Test.YtdpgkgmnlcepbaaDoorSplit
namespace Go.Proofs.YtdpgkgmnlcepbaaDoor
open Go.RowKit
set_option linter.unusedVariables false

theorem nm_a7 {b : UInt8} (h : nm b = true) : a7 b = true := by
  unfold nm at h
  unfold a7
  apply decide_eq_true
  simp [lo, dg] at h
  omega
theorem nm_58 {b : UInt8} (h : nm b = true) : b ≠ 58 := by
  intro hb; subst hb; exact absurd h (by decide)
theorem each_imp {p q : UInt8 → Bool} (hpq : ∀ b, p b = true → q b = true) {l : List UInt8} (h : Each p l = true) : Each q l = true := by
  unfold Each at *; rw [List.all_eq_true] at *; exact fun x hx => hpq x (h x hx)

theorem idna_any (s : ByteArray) (w : World) (hs : s.size ≤ 4611686018427387904) (hd : Each a7 s.data.toList = true) :
    Calls Tryd.prog 14 #[.string s] w fun e w' => e = .returned (.tuple #[.string s, .nilIface]) ∧ w = w' := by
  have HD := Lib.hid hd; clear hd
  go_enter Tryd.func14, Tryd.ntmps14
  go_wp2_with (go_at_call 18; refine (isASCII_any s _ (by omega)).mono ?_; rw [HD.out]; rintro e w' ⟨rfl, rfl⟩)
  refine bodyPost_ret (v := .tuple #[.string s, .nilIface]) (by simp [results, Tryd.results14, go_sem]) rfl ⟨rfl, rfl⟩

theorem join_any (n p : ByteArray) (w : World) (hn : n.size ≤ 100) (hp : p.size ≤ 100) (hd : Each nm n.data.toList = true) :
    Calls Tryd.prog 16 #[.string n, .string p] w fun e w' => e = .returned (.string (n ++ ⟨#[58]⟩ ++ p)) ∧ w = w' := by
  have hl : Lib.indexByte n.data.toList (58 : Int).toNat.toUInt8 = -1 := indexByte_none _ _ (fun b hb => nm_58 (List.all_eq_true.1 hd b hb))
  clear hd
  have HL := Lib.hid hl; clear hl
  go_enter Tryd.func16, Tryd.ntmps16
  go_wp2_with (go_at_call 20; refine (Tryd.strings_IndexByte n 58 _).mono ?_; rw [HL.out]; rintro e w' ⟨rfl, rfl⟩)
  go_ret
  exact ⟨rfl, rfl⟩

/-- An URL in memory, as far as it is read. -/
def Url (w : World) (b : Nat) (sch host : ByteArray) : Prop := w.cell? ⟨b, 0, none⟩ = some (.string sch) ∧ w.cell? ⟨b, 3, none⟩ = some (.string host)
theorem Url.below {w w' : World} {b : Nat} {sch host : ByteArray} (h : Url w b sch host) (hb : Below w.heap.size w w') : Url w' b sch host :=
  ⟨(hb.cell (p := ⟨b, 0, none⟩) (World.block_lt_of_cell? w _ h.1)).trans h.1, (hb.cell (p := ⟨b, 3, none⟩) (World.block_lt_of_cell? w _ h.2)).trans h.2⟩

def Splits (host n p : ByteArray) : Prop := ∀ w, Calls Tryd.prog 17 #[.string host] w fun e w' => e = .returned (.tuple #[.string n, .string p]) ∧ Below w.heap.size w w'

theorem hostname_any (b : Nat) (sch host n p : ByteArray) (w : World) (hu : Url w b sch host) (hsp : Splits host n p) :
    Calls Tryd.prog 13 #[.pointer (some ⟨b, 0, none⟩)] w fun e w' => e = .returned (.string n) ∧ Below w.heap.size w w' := by
  obtain ⟨_, h3⟩ := hu
  go_enter Tryd.func13, Tryd.ntmps13
  go_wp2_with (go_at_call 17; refine (hsp _).mono ?_; rintro e w' ⟨rfl, hb⟩; have HB := Lib.hid hb; clear hb)
  go_ret
  exact ⟨rfl, HB.out⟩
theorem port_any (b : Nat) (sch host n p : ByteArray) (w : World) (hu : Url w b sch host) (hsp : Splits host n p) :
    Calls Tryd.prog 15 #[.pointer (some ⟨b, 0, none⟩)] w fun e w' => e = .returned (.string p) ∧ Below w.heap.size w w' := by
  obtain ⟨_, h3⟩ := hu
  go_enter Tryd.func15, Tryd.ntmps15
  go_wp2_with (go_at_call 17; refine (hsp _).mono ?_; rintro e w' ⟨rfl, hb⟩; have HB := Lib.hid hb; clear hb)
  go_ret
  exact ⟨rfl, HB.out⟩

theorem canon_port (b : Nat) (sch host n p : ByteArray) (w : World) (hu : Url w b sch host) (hsp : Splits host n p) (hn1 : 1 ≤ n.size) (hn : n.size ≤ 100) (hd : Each nm n.data.toList = true) (hp1 : 1 ≤ p.size) (hp : p.size ≤ 100) :
    Calls Tryd.prog 12 #[.pointer (some ⟨b, 0, none⟩)] w fun e w' => e = .returned (.string (n ++ ⟨#[58]⟩ ++ p)) ∧ Below w.heap.size w w' := by
  have HD := Lib.hid hd; clear hd
  have HS := Lib.hid hsp; clear hsp
  have HU := Lib.hid hu; clear hu
  have hne := not_empty hp1
  go_enter Tryd.func12, Tryd.ntmps12
  go_wp2_with (first | (go_at_call 13; refine (hostname_any b sch host n p _ HU.out HS.out).mono ?_; rintro e w1 ⟨rfl, hb⟩; have HB := Lib.hid hb; clear hb) | (go_at_call 14; refine (idna_any n _ (by omega) (each_imp (fun _ => nm_a7) HD.out)).mono ?_; rintro e w' ⟨rfl, rfl⟩) | (go_at_call 15; refine (port_any b sch host n p _ (HU.out.below HB.out) HS.out).mono ?_; rintro e w2 ⟨rfl, hb⟩; have HB2 := Lib.hid (HB.out.trans (hb.mono HB.out.size)); clear hb) | (go_at_call 16; refine (join_any n p _ hn hp HD.out).mono ?_; rintro e w' ⟨rfl, rfl⟩))
  go_ret
  exact ⟨rfl, HB2.out⟩

theorem canon_none (b bm : Nat) (sch host n v : ByteArray) (w : World) (hu : Url w b sch host) (hsp : Splits host n ⟨#[]⟩) (hn1 : 1 ≤ n.size) (hn : n.size ≤ 100) (hd : Each nm n.data.toList = true) (hv : v.size ≤ 100)
    (hc : w.cell? ⟨0, 0, none⟩ = some (.map (some bm))) (hlk : ∀ wx, Below w.heap.size w wx → (Instr.lookup 39 (.map (some bm)) (.string sch) false).run Tryd.prog wx = .ok (.string v) wx) :
    Calls Tryd.prog 12 #[.pointer (some ⟨b, 0, none⟩)] w fun e w' => e = .returned (.string (n ++ ⟨#[58]⟩ ++ v)) ∧ Below w.heap.size w w' := by
  have HD := Lib.hid hd; clear hd
  have HS := Lib.hid hsp; clear hsp
  have HU := Lib.hid hu; clear hu
  have HC := Lib.hid hc; clear hc
  have HL := Lib.hid hlk; clear hlk
  go_enter Tryd.func12, Tryd.ntmps12
  go_wp2_with (first | (go_at_call 13; refine (hostname_any b sch host n _ _ HU.out HS.out).mono ?_; rintro e w1 ⟨rfl, hb⟩; have HB := Lib.hid hb; clear hb) | (go_at_call 14; refine (idna_any n _ (by omega) (each_imp (fun _ => nm_a7) HD.out)).mono ?_; rintro e w' ⟨rfl, rfl⟩) | (go_at_call 15; refine (port_any b sch host n _ _ (HU.out.below HB.out) HS.out).mono ?_; rintro e w2 ⟨rfl, hb⟩; have HB2 := Lib.hid (HB.out.trans (hb.mono HB.out.size)); clear hb))
  have h0 := (HU.out.below HB2.out).1
  have hg := (HB2.out.cell (p := ⟨0, 0, none⟩) (World.block_lt_of_cell? w _ HC.out)).trans HC.out
  have hl : ∀ q, (Instr.lookup 39 (.map (some bm)) (.string sch) false).run Tryd.prog (w2.drewN q) = .ok (.string v) (w2.drewN q) := fun q => HL.out _ (below_drewN HB2.out q)
  go_quiet (fail)
  go_wp2_with (go_at_call 16; refine (join_any n v _ hn hv HD.out).mono ?_; rintro e w' ⟨rfl, rfl⟩)
  go_ret
  exact ⟨rfl, below_drewN HB2.out _⟩
end Go.Proofs.YtdpgkgmnlcepbaaDoor
