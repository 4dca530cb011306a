/- The law laws.FnDomainMatch returns true for every input; the world has at most new blocks. -/
import Derived.Test.YtdpgkgmnlcepbaaDom
namespace Go.Proofs.Ytdpgkgmnlcepbaa
open Go.RowKit
set_option linter.unusedVariables false

theorem cat (a b : ByteArray) : (a ++ b).data.toList = a.data.toList ++ b.data.toList := by rw [ByteArray.data_append, Array.toList_append]
theorem grown_trans {a b c : World} (h : Grown a b) (k : Grown b c) : Grown a c := ⟨World.keptBut_trans h.1 k.1, fun x => (k.2.1 x).trans (h.2.1 x), Nat.le_trans h.2.2 k.2.2⟩
theorem sz46 : (ByteArray.mk #[46]).size = 1 := rfl
theorem dm_yes : dmatch (ByteArray.mk #[46, 97]) (ByteArray.mk #[]) true (ByteArray.mk #[97]) (ByteArray.mk #[49]) = true := by decide +kernel
theorem dmatch_dot (d dp : ByteArray) (m : Bool) (host pt : ByteArray) :
    dmatch (ByteArray.mk #[46] ++ d) dp m host pt = ((sfx host.data.toList (46 :: d.data.toList) || (m && host.toList == d.toList)) && (dp.toList.isEmpty || dp.toList == pt.toList)) := by
  unfold dmatch
  rw [tail_list, cat, ByteArray.toList_eq d]
  rfl

set_option maxHeartbeats 1000000 in
theorem dom_short_yes (d dp : ByteArray) (m : Bool) (host pt : ByteArray) (w : World) (h0 : d.size ≤ 2147483647) (h1 : dp.size ≤ 2147483647) (h2 : host.size ≤ 2147483647) (h3 : pt.size ≤ 2147483647) (hZ : dp.toList.isEmpty = true) :
    Calls Try.prog 5 #[.string d, .string dp, .bool m, .string host, .string pt] w fun e w' => e = .returned (.bool true) ∧ Grown w w' := by
  have HY := Lib.hid dm_yes
  go_enter Try.func5, Try.ntmps5
  go_wp2_with fail
  refine (match_any _ _ _ _ _ _ (by decide) (by decide) (by decide)).mono ?_
  rintro e w1 ⟨rfl, hg⟩
  have HG := Lib.hid hg; clear hg
  rw [HY.out]
  go_wp2_with fail
  refine (isName_any _ _ (by omega)).mono ?_
  rintro e w2 ⟨b1, rfl, _, rfl⟩
  cases b1
  · go_wp2
    go_ret
    exact ⟨rfl, HG.out⟩
  · have tok := trivial
    clear tok
    go_wp2_with fail
    refine (isName_any _ _ (by omega)).mono ?_
    rintro e w2 ⟨b3, rfl, _, rfl⟩
    cases b3
    · go_wp2
      go_ret
      exact ⟨rfl, HG.out⟩
    · have tok := trivial
      clear tok
      go_wp2_with fail
      refine (isPort_any _ _ (by omega)).mono ?_
      rintro e w2 ⟨b4, rfl, _, rfl⟩
      cases b4
      · go_wp2
        go_ret
        exact ⟨rfl, HG.out⟩
      · have tok := trivial
        clear tok
        go_wp2_with fail
        refine (isBelow_any _ _ _ (by omega) (by omega)).mono ?_
        rintro e w2 ⟨rfl, rfl⟩
        cases hX : sfx host.data.toList (46 :: d.data.toList)
        · cases m
          · have tok := trivial
            clear tok
            have HV := Lib.hid (show dmatch (ByteArray.mk #[46] ++ d) dp false host pt = false by rw [dmatch_dot]; simp [hX])
            go_wp2_with fail
            refine (match_any _ _ _ _ _ _ (by rw [ByteArray.size_append]; have := sz46; omega) (by rw [ByteArray.size_append]; have := sz46; omega) (by omega)).mono ?_
            rintro e w3 ⟨rfl, hg3⟩
            have HG3 := Lib.hid (grown_trans HG.out hg3); clear hg3
            rw [HV.out]
            go_wp2
            go_ret
            exact ⟨rfl, HG3.out⟩
          · cases hY : (host.toList == d.toList)
            · have tok := trivial
              clear tok
              have HV := Lib.hid (show dmatch (ByteArray.mk #[46] ++ d) dp true host pt = false by rw [dmatch_dot]; simp [hX, hY])
              go_wp2_with fail
              refine (match_any _ _ _ _ _ _ (by rw [ByteArray.size_append]; have := sz46; omega) (by rw [ByteArray.size_append]; have := sz46; omega) (by omega)).mono ?_
              rintro e w3 ⟨rfl, hg3⟩
              have HG3 := Lib.hid (grown_trans HG.out hg3); clear hg3
              rw [HV.out]
              go_wp2
              go_ret
              exact ⟨rfl, HG3.out⟩
            · have tok := trivial
              clear tok
              have HV := Lib.hid (show dmatch (ByteArray.mk #[46] ++ d) dp true host pt = true by rw [dmatch_dot]; simp [hX, hY, hZ])
              go_wp2_with fail
              refine (match_any _ _ _ _ _ _ (by rw [ByteArray.size_append]; have := sz46; omega) (by rw [ByteArray.size_append]; have := sz46; omega) (by omega)).mono ?_
              rintro e w3 ⟨rfl, hg3⟩
              have HG3 := Lib.hid (grown_trans HG.out hg3); clear hg3
              rw [HV.out]
              go_wp2
              go_ret
              exact ⟨rfl, HG3.out⟩
        · have tok := trivial
          clear tok
          have HV := Lib.hid (show dmatch (ByteArray.mk #[46] ++ d) dp m host pt = true by rw [dmatch_dot]; simp [hX, hZ])
          go_wp2_with fail
          refine (match_any _ _ _ _ _ _ (by rw [ByteArray.size_append]; have := sz46; omega) (by rw [ByteArray.size_append]; have := sz46; omega) (by omega)).mono ?_
          rintro e w3 ⟨rfl, hg3⟩
          have HG3 := Lib.hid (grown_trans HG.out hg3); clear hg3
          rw [HV.out]
          go_wp2
          go_ret
          exact ⟨rfl, HG3.out⟩

set_option maxHeartbeats 1000000 in
theorem dom_short_no (d dp : ByteArray) (m : Bool) (host pt : ByteArray) (w : World) (h0 : d.size ≤ 2147483647) (h1 : dp.size ≤ 2147483647) (h2 : host.size ≤ 2147483647) (h3 : pt.size ≤ 2147483647) (hZ : dp.toList.isEmpty = false) :
    Calls Try.prog 5 #[.string d, .string dp, .bool m, .string host, .string pt] w fun e w' => e = .returned (.bool true) ∧ Grown w w' := by
  have HY := Lib.hid dm_yes
  go_enter Try.func5, Try.ntmps5
  go_wp2_with fail
  refine (match_any _ _ _ _ _ _ (by decide) (by decide) (by decide)).mono ?_
  rintro e w1 ⟨rfl, hg⟩
  have HG := Lib.hid hg; clear hg
  rw [HY.out]
  go_wp2_with fail
  refine (isName_any _ _ (by omega)).mono ?_
  rintro e w2 ⟨b1, rfl, _, rfl⟩
  cases b1
  · go_wp2
    go_ret
    exact ⟨rfl, HG.out⟩
  · have tok := trivial
    clear tok
    go_wp2_with fail
    refine (isPort_any _ _ (by omega)).mono ?_
    rintro e w2 ⟨b2, rfl, _, rfl⟩
    cases b2
    · go_wp2
      go_ret
      exact ⟨rfl, HG.out⟩
    · have tok := trivial
      clear tok
      go_wp2_with fail
      refine (isName_any _ _ (by omega)).mono ?_
      rintro e w2 ⟨b3, rfl, _, rfl⟩
      cases b3
      · go_wp2
        go_ret
        exact ⟨rfl, HG.out⟩
      · have tok := trivial
        clear tok
        go_wp2_with fail
        refine (isPort_any _ _ (by omega)).mono ?_
        rintro e w2 ⟨b4, rfl, _, rfl⟩
        cases b4
        · go_wp2
          go_ret
          exact ⟨rfl, HG.out⟩
        · have tok := trivial
          clear tok
          go_wp2_with fail
          refine (isBelow_any _ _ _ (by omega) (by omega)).mono ?_
          rintro e w2 ⟨rfl, rfl⟩
          cases hX : sfx host.data.toList (46 :: d.data.toList)
          · cases m
            · have tok := trivial
              clear tok
              have HV := Lib.hid (show dmatch (ByteArray.mk #[46] ++ d) dp false host pt = false by rw [dmatch_dot]; simp [hX])
              go_wp2_with fail
              refine (match_any _ _ _ _ _ _ (by rw [ByteArray.size_append]; have := sz46; omega) (by rw [ByteArray.size_append]; have := sz46; omega) (by omega)).mono ?_
              rintro e w3 ⟨rfl, hg3⟩
              have HG3 := Lib.hid (grown_trans HG.out hg3); clear hg3
              rw [HV.out]
              go_wp2
              go_ret
              exact ⟨rfl, HG3.out⟩
            · cases hY : (host.toList == d.toList)
              · have tok := trivial
                clear tok
                have HV := Lib.hid (show dmatch (ByteArray.mk #[46] ++ d) dp true host pt = false by rw [dmatch_dot]; simp [hX, hY])
                go_wp2_with fail
                refine (match_any _ _ _ _ _ _ (by rw [ByteArray.size_append]; have := sz46; omega) (by rw [ByteArray.size_append]; have := sz46; omega) (by omega)).mono ?_
                rintro e w3 ⟨rfl, hg3⟩
                have HG3 := Lib.hid (grown_trans HG.out hg3); clear hg3
                rw [HV.out]
                go_wp2
                go_ret
                exact ⟨rfl, HG3.out⟩
              · have tok := trivial
                clear tok
                cases hT : (dp.toList == pt.toList)
                · have tok := trivial
                  clear tok
                  have HV := Lib.hid (show dmatch (ByteArray.mk #[46] ++ d) dp true host pt = false by rw [dmatch_dot]; simp [hX, hY, hZ, hT])
                  go_wp2_with fail
                  refine (match_any _ _ _ _ _ _ (by rw [ByteArray.size_append]; have := sz46; omega) (by rw [ByteArray.size_append]; have := sz46; omega) (by omega)).mono ?_
                  rintro e w3 ⟨rfl, hg3⟩
                  have HG3 := Lib.hid (grown_trans HG.out hg3); clear hg3
                  rw [HV.out]
                  go_wp2
                  go_ret
                  exact ⟨rfl, HG3.out⟩
                · have tok := trivial
                  clear tok
                  have HV := Lib.hid (show dmatch (ByteArray.mk #[46] ++ d) dp true host pt = true by rw [dmatch_dot]; simp [hX, hY, hZ, hT])
                  go_wp2_with fail
                  refine (match_any _ _ _ _ _ _ (by rw [ByteArray.size_append]; have := sz46; omega) (by rw [ByteArray.size_append]; have := sz46; omega) (by omega)).mono ?_
                  rintro e w3 ⟨rfl, hg3⟩
                  have HG3 := Lib.hid (grown_trans HG.out hg3); clear hg3
                  rw [HV.out]
                  go_wp2
                  go_ret
                  exact ⟨rfl, HG3.out⟩
          · have tok := trivial
            clear tok
            cases hT : (dp.toList == pt.toList)
            · have tok := trivial
              clear tok
              have HV := Lib.hid (show dmatch (ByteArray.mk #[46] ++ d) dp m host pt = false by rw [dmatch_dot]; simp [hX, hZ, hT])
              go_wp2_with fail
              refine (match_any _ _ _ _ _ _ (by rw [ByteArray.size_append]; have := sz46; omega) (by rw [ByteArray.size_append]; have := sz46; omega) (by omega)).mono ?_
              rintro e w3 ⟨rfl, hg3⟩
              have HG3 := Lib.hid (grown_trans HG.out hg3); clear hg3
              rw [HV.out]
              go_wp2
              go_ret
              exact ⟨rfl, HG3.out⟩
            · have tok := trivial
              clear tok
              have HV := Lib.hid (show dmatch (ByteArray.mk #[46] ++ d) dp m host pt = true by rw [dmatch_dot]; simp [hX, hZ, hT])
              go_wp2_with fail
              refine (match_any _ _ _ _ _ _ (by rw [ByteArray.size_append]; have := sz46; omega) (by rw [ByteArray.size_append]; have := sz46; omega) (by omega)).mono ?_
              rintro e w3 ⟨rfl, hg3⟩
              have HG3 := Lib.hid (grown_trans HG.out hg3); clear hg3
              rw [HV.out]
              go_wp2
              go_ret
              exact ⟨rfl, HG3.out⟩

end Go.Proofs.Ytdpgkgmnlcepbaa
