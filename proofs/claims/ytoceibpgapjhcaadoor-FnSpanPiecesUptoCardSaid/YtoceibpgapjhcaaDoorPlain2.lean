/- The plain law, its consequences: the machine tells a label that conforms, as the reference has it; what marks, an end, numbers, a beginning and another label do to it. -/
import Derived.Test.YtoceibpgapjhcaaDoorPlain
namespace Go.Proofs.YtoceibpgapjhcaaDoor

theorem finSt_code (b f : Bool) : finSt (code b f) = f := by cases b <;> cases f <;> rfl
theorem nonempty_of {l : List Int} (h : good l = false) : l ≠ [] := by rintro rfl; simp [good] at h
theorem hold_of_good {l : List Int} (hl : l ≠ []) : good l = hold l := by cases l with | nil => exact absurd rfl hl | cons a t => rfl

theorem valid_conf (l : List Int) (hb : Bytes' l) : valid l = conf l := by
  cases hg : good l
  · have h5 := ((inv_all l hb).2 hg).1
    have hl := nonempty_of hg
    rw [hold_of_good hl] at hg
    have e : conf l = false := by cases l with | nil => exact absurd rfl hl | cons a t => simp [conf, fin, hg]
    unfold valid; rw [h5, e]; simp [finSt]
  · have hr := (inv_all l hb).1 hg
    unfold valid; rw [hr]
    cases l with
    | nil => rfl
    | cons a t =>
      have hl : a :: t ≠ [] := by simp
      rw [hold_of_good hl] at hg
      show (true && decide ((a :: t).length ≤ (a :: t).length) && finSt (stateOf (a :: t))) = _
      rw [state_cons _ hl hg, finSt_code]
      simp [conf]

/-- Condition 1. -/
theorem begin_no (c : Int) (t : List Int) (hb : isBk (c :: t) = true) (h1 : c ≠ 1) (h13 : c ≠ 13) : conf (c :: t) = false := by
  have hbg : bg1 (c :: t) = false := by simp [bg1, h1, h13]
  have : hold (c :: t) = false := by
    unfold hold
    rw [hbg]
    obtain ⟨x, hx, hk⟩ := List.any_eq_true.1 hb
    have : (c :: t).all (inn false) = false := by
      rw [List.all_eq_false]; exact ⟨x, hx, by rw [inn_bk x hk]; simp⟩
    rw [this]; simp
  simp [conf, fin, this]

theorem last_snoc_ne (l : List Int) (c : Int) (h : c ≠ 12) : last (l ++ [c]) = c := by rw [last_snoc, if_neg h]
/-- Condition 3: an end that is neutral. -/
theorem end_no (l : List Int) (c : Int) (h : neu c = true) : conf (l ++ [c]) = false := by
  have hc : c ≠ 12 := by rintro rfl; exact absurd h (by decide)
  have e : (l ++ [c]).isEmpty = false := by simp
  unfold conf fin
  rw [e, last_snoc_ne l c hc, h]; simp

/-- Condition 3: one mark behind a label that is not empty. -/
theorem mark_one (l : List Int) (hl : l ≠ []) : conf (l ++ [12]) = conf l := by
  have h1 : hold (l ++ [12]) = hold l := by
    have hi : inn (bg1 l) 12 = true := by cases bg1 l <;> decide
    have h2 : has 2 (l ++ [12]) = has 2 l := by rw [has_snoc]; simp
    have h5 : has 5 (l ++ [12]) = has 5 l := by rw [has_snoc]; simp
    rw [hold_snoc l 12 hl, hi, h2, h5]
    unfold hold
    cases (bg1 l && has 2 l && has 5 l) <;> simp
  have h2 : fin (l ++ [12]) = fin l := by unfold fin; rw [h1, last_snoc]; simp
  have e : (l ++ [12]).isEmpty = false := by simp
  have e2 : l.isEmpty = false := by cases l with | nil => exact absurd rfl hl | cons a t => rfl
  unfold conf; rw [e, e2, h2]
theorem marks_any (l : List Int) (hl : l ≠ []) (m : Nat) : conf (l ++ List.replicate m 12) = conf l := by
  induction m with
  | zero => simp
  | succ m ih => rw [List.replicate_succ', ← List.append_assoc, mark_one _ (by simp [hl]), ih]
theorem isBk_ne {l : List Int} (h : isBk l = true) : l ≠ [] := by rintro rfl; simp [isBk] at h

/-- Condition 4. -/
theorem numbers_no (c : Int) (l : List Int) (hc : c = 1 ∨ c = 13) (h2 : has 2 l = true) (h5 : has 5 l = true) : conf (c :: l) = false := by
  have hbg : bg1 (c :: l) = true := by rcases hc with rfl | rfl <;> rfl
  have e2 : has 2 (c :: l) = true := by unfold has at *; rw [List.any_cons, h2]; simp
  have e5 : has 5 (c :: l) = true := by unfold has at *; rw [List.any_cons, h5]; simp
  have : hold (c :: l) = false := by unfold hold; rw [hbg, e2, e5]; simp
  simp [conf, fin, this]

/-- A label from right to left that conforms begins with R or AL. -/
theorem conf_back {l : List Int} (hb : isBk l = true) (hc : conf l = true) : bg1 l = true ∧ hold l = true ∧ neu (last l) = false := by
  have hl := isBk_ne hb
  have hf : fin l = true := by cases l with | nil => exact absurd rfl hl | cons a t => simpa [conf] using hc
  unfold fin at hf
  rw [Bool.and_eq_true] at hf
  refine ⟨?_, hf.1, by simpa using hf.2⟩
  cases hbg : bg1 l
  · exfalso
    have hh := hf.1
    unfold hold at hh
    rw [hbg] at hh
    obtain ⟨x, hx, hk⟩ := List.any_eq_true.1 hb
    have : l.all (inn false) = false := by rw [List.all_eq_false]; exact ⟨x, hx, by rw [inn_bk x hk]; simp⟩
    rw [this] at hh; simp at hh
  · rfl

theorem last_foldl (t : List Int) (a b : Int) (c : Int) (hc : c ≠ 12) : (c :: t).foldl (fun a c => if c = 12 then a else c) a = (c :: t).foldl (fun a c => if c = 12 then a else c) b := by
  simp [hc]
theorem last_append (a b : List Int) (h : bg1 b = true) (hb : b ≠ []) : last (a ++ b) = last b := by
  unfold last
  rw [List.foldl_append]
  cases b with
  | nil => exact absurd rfl hb
  | cons c t =>
    have hc : c ≠ 12 := by
      rintro rfl; simp [bg1] at h
    exact last_foldl t _ _ c hc

theorem joined (one two : List Int) (b1 : isBk one = true) (b2 : isBk two = true) (c1 : conf one = true) (c2 : conf two = true) :
    conf (one ++ two) = !(has 2 (one ++ two) && has 5 (one ++ two)) := by
  obtain ⟨g1, h1, _⟩ := conf_back b1 c1
  obtain ⟨g2, h2, n2⟩ := conf_back b2 c2
  have l1 := isBk_ne b1
  have l2 := isBk_ne b2
  have hbg : bg1 (one ++ two) = true := by cases one with | nil => exact absurd rfl l1 | cons a t => exact g1
  have hbg2 : bg2 (one ++ two) = true := by unfold bg2; rw [hbg]; rfl
  have hall : (one ++ two).all (inn true) = true := by
    rw [List.all_append]
    unfold hold at h1 h2
    rw [g1] at h1
    rw [g2] at h2
    rw [Bool.and_eq_true, Bool.and_eq_true] at h1 h2
    rw [h1.1.2, h2.1.2]; rfl
  have hh : hold (one ++ two) = !(has 2 (one ++ two) && has 5 (one ++ two)) := by
    unfold hold; rw [hbg, hbg2, hall]; simp
  have e : (one ++ two).isEmpty = false := by simp [l1]
  unfold conf fin
  rw [e, last_append one two g2 l2, n2, hh]; simp

/-! states -/
theorem state_five {l : List Int} : stateOf l = 5 ↔ good l = false := by
  cases l with
  | nil => simp [stateOf, good]
  | cons a t =>
    show (if hold (a :: t) = true then code _ _ else 5) = 5 ↔ hold (a :: t) = false
    cases hold (a :: t)
    · simp
    · simp [code_ne]
theorem bits_and_small {l : List Int} (h : good l = true) : ∀ c ∈ l, c < 14 := by
  cases l with
  | nil => simp
  | cons a t =>
    intro c hc
    have hh : hold (a :: t) = true := h
    unfold hold at hh
    rw [Bool.and_eq_true, Bool.and_eq_true] at hh
    have := List.all_eq_true.1 hh.1.2 c hc
    unfold inn at this
    simp [neu, bk] at this
    omega
/-- The machine run on from behind a label without a fault. -/
theorem run_one (l : List Int) (c : Int) (hb : Bytes' (l ++ [c])) (hg : good l = true) :
    (run ⟨0, true, stateOf l, bits l⟩ [c]).st = stateOf (l ++ [c]) ∧ (run ⟨0, true, stateOf l, bits l⟩ [c]).seen = bits (l ++ [c]) ∧
    (isBk (l ++ [c]) = true → (run ⟨0, true, stateOf l, bits l⟩ [c]).ok = decide (stateOf (l ++ [c]) ≠ 5)) := by
  have hbl : Bytes' l := fun x hx => hb x (by simp [hx])
  have hr := (inv_all l hbl).1 hg
  have hs : run init (l ++ [c]) = step ⟨l.length, true, stateOf l, bits l⟩ c := by rw [run_snoc, hr]
  have h0 : run ⟨0, true, stateOf l, bits l⟩ [c] = step ⟨0, true, stateOf l, bits l⟩ c := rfl
  have heq : (step ⟨0, true, stateOf l, bits l⟩ c).st = (step ⟨l.length, true, stateOf l, bits l⟩ c).st ∧ (step ⟨0, true, stateOf l, bits l⟩ c).seen = (step ⟨l.length, true, stateOf l, bits l⟩ c).seen ∧ (step ⟨0, true, stateOf l, bits l⟩ c).ok = (step ⟨l.length, true, stateOf l, bits l⟩ c).ok := by
    unfold step
    simp only [if_true]
    split
    · exact ⟨rfl, rfl, rfl⟩
    · split
      · exact ⟨rfl, rfl, rfl⟩
      · exact ⟨rfl, rfl, rfl⟩
  have hseen : (step ⟨l.length, true, stateOf l, bits l⟩ c).seen = bits (l ++ [c]) := by
    rw [bits_snoc]; unfold step
    simp only [if_true]
    split
    · rfl
    · split <;> rfl
  rw [h0, heq.1, heq.2.1, heq.2.2, hseen, ← hs]
  have inv := inv_all _ hb
  cases hg2 : good (l ++ [c])
  · obtain ⟨h5, hok⟩ := inv.2 hg2
    refine ⟨by rw [h5, state_five.2 hg2], rfl, fun hbk => ?_⟩
    rw [state_five.2 hg2]
    cases ho : (run init (l ++ [c])).ok
    · simp
    · have := (hok ho).2.2; rw [hbk] at this; cases this
  · have h6 := inv.1 hg2
    refine ⟨by rw [h6], rfl, fun _ => ?_⟩
    have : stateOf (l ++ [c]) ≠ 5 := fun e => by rw [state_five] at e; rw [hg2] at e; cases e
    rw [h6]; simp [this]

theorem run_broken (c : Int) (q : Nat) : (run ⟨0, true, 5, q⟩ [c]).st = 5 := step_five ⟨0, true, 5, q⟩ c rfl
theorem run_fault (l : List Int) (hb : Bytes' l) (h : stateOf l = 5) (hk : isBk l = true) : (run init l).ok = false := by
  rw [state_five] at h
  obtain ⟨_, hok⟩ := (inv_all l hb).2 h
  cases ho : (run init l).ok
  · rfl
  · have := (hok ho).2.2; rw [hk] at this; cases this
theorem run_whole (l : List Int) (hb : Bytes' l) (h : stateOf l ≠ 5) : run init l = ⟨l.length, true, stateOf l, bits l⟩ := by
  cases hg : good l
  · exact absurd (state_five.2 hg) h
  · exact (inv_all l hb).1 hg
end Go.Proofs.YtoceibpgapjhcaaDoor
