/- What the functions that laws.FnCanonical reaches return at a name, and at a name with a port behind it. Condition: the text has at most 4611686018427387904 bytes. -/
import Derived.Test.YtdpgkgmnlcepbaaDoorLix
import Derived.Test.YtdpgkgmnlcepbaaDoorShelf
import Derived.Laws.RangeString
import Derived.Laws.RangeAny
import Derived.LoopTactic
import Derived.Below
namespace Go.Proofs.YtdpgkgmnlcepbaaDoor
open Go.RowKit
set_option linter.unusedVariables false

theorem cat (a b : ByteArray) : (a ++ b).data.toList = a.data.toList ++ b.data.toList := by rw [ByteArray.data_append, Array.toList_append]
theorem bytes_eq {a b : ByteArray} (h : a.data.toList = b.data.toList) : a = b := by
  cases a; cases b; simp at h; simp [h]

theorem indexByte_none (l : List UInt8) (c : UInt8) (h : ∀ b ∈ l, b ≠ c) : Lib.indexByte l c = -1 := by
  induction l with
  | nil => rfl
  | cons b t ih =>
    unfold Lib.indexByte
    rw [ih (fun x hx => h x (by simp [hx]))]
    have : (b == c) = false := by simpa using h b (by simp)
    rw [this]; rfl

theorem each_at (p : UInt8 → Bool) {s : ByteArray} (h : Each p s.data.toList = true) {k : Nat} (hk : k < s.size) : p s[k] = true :=
  List.all_eq_true.1 h _ (List.getElem_mem (l := s.data.toList) (by simpa using hk))

theorem not_empty {s : ByteArray} (h : 1 ≤ s.size) : s.toList.isEmpty = false := by
  rw [ByteArray.toList_eq]
  cases hl : s.data.toList with
  | nil =>
    have h2 : s.data.toList.length = s.size := by simp
    rw [hl] at h2
    exact absurd h2 (by show ¬ (0 = s.size); omega)
  | cons => rfl
/-- The digits behind a colon are a port. -/
theorem validOptionalPort_any (s : ByteArray) (w : World) (hs : s.size ≤ 4611686018427387904) (h1 : 1 ≤ s.size) (h58 : ((s[0].toNat : Int) == 58) = true) (hd : Each dgB (s.extract 1 s.size).data.toList = true) :
    Calls Tryd.prog 22 #[.string s] w fun e w' => e = .returned (.bool true) ∧ Below w.heap.size w w' := by
  have HD := Lib.hid hd; clear hd
  have hn58 : ((s[0].toNat : Int) != 58) = false := by simp only [bne, h58]; rfl
  have hne := not_empty h1
  go_enter Tryd.func22, Tryd.ntmps22
  go_wp2
  generalize s.extract 1 s.size = t at HD ⊢
  have HT := HD
  go_loopw [4] (fun _ w' => ∃ (pos : Nat), w' = w.iter t pos) (fun _ w' => t.size - w'.iterPos w.heap.size)
  case atStart => exact ⟨0, rfl⟩
  case round =>
    obtain ⟨pos, rfl⟩ := hrel
    by_cases hp : pos < t.size
    · have hdg := each_at dgB HT.out hp
      have h2 : 48 ≤ (t[pos].toNat : Int) ∧ (t[pos].toNat : Int) ≤ 57 := by
        have : (decide (48 ≤ (t[pos].toNat : Int)) && decide ((t[pos].toNat : Int) ≤ 57)) = true := hdg
        rw [Bool.and_eq_true] at this
        exact ⟨of_decide_eq_true this.1, of_decide_eq_true this.2⟩
      have hnx := fun ty => run_next_ascii (P := Tryd.prog) w t pos ty hp (by omega)
      clear hdg
      obtain ⟨c, hc⟩ : ∃ c : Int, c = (t[pos].toNat : Int) := ⟨_, rfl⟩
      rw [← hc] at h2
      simp only [← hc] at hnx
      clear hc
      obtain ⟨h48, h57⟩ := h2
      go_wp2
      go_roundw
      case rel => exact ⟨pos + 1, rfl⟩
      case measure =>
        simp
        omega
    · have hnx := fun ty => run_next_end (P := Tryd.prog) w t pos ty hp
      go_wp2
      go_ret
      exact ⟨rfl, (Below.refl _ _).alloc (Nat.le_refl _) _⟩
end Go.Proofs.YtdpgkgmnlcepbaaDoor
