/-
  DERIVED. GIVEN WITH THE SEED: THE CARDS: each row of YtoceibpgapjhcaaDoorRows.lean that lists a variable, with what it lists TIED to the program's text (the seventh form; the later family's looks); each row that meets fmt, with fmt's text TOLD by the authors' own Lean function (tested against real Go, not proved from fmt's source: count such statements apart). THE CARD IS WHAT COUNTS. Prove the row's statement (the work); the ties are given (YtoceibpgapjhcaaDoorTie.lean); close each card by the builder's one call (the guide's Derived/Test/ToyasCard.lean, 'card_holds'). Laid BY PROGRAM, IN A SANDBOX (cutbox-door.mjs). By AI agents, Wed Nov 11 2026. No macro, syntax, notation, axiom, sorry.
-/
import Derived.Test.YtoceibpgapjhcaaDoorRows
import GoSem.ClaimSeven
namespace Go.Proofs.YtoceibpgapjhcaaDoor
namespace Rows

/-- THE TIED CARD OF 'laws.FnStep'. -/
def fnStepCard : Claim7 := { stood := { row := fnStepRow, standIns := [], harness := (true, "eb120034a033ee8bd798de9114ee5de4080ec395a7dcfd564adcea0d00f6848d"), looks := true }, kinds := [], alts := [], laidByText := true, laidKinds := [.data], laidTests := true, laidLooks := .later }
def FnStepCardSaid : Prop := Claim7.holds Tryd.pinned (.plain (OpenSpec.ofChange fnStepSpec)) fnStepCard

/-- THE TIED CARD OF 'laws.FnStepBroken'. -/
def fnStepBrokenCard : Claim7 := { stood := { row := fnStepBrokenRow, standIns := [], harness := (true, "eb120034a033ee8bd798de9114ee5de4080ec395a7dcfd564adcea0d00f6848d"), looks := true }, kinds := [], alts := [], laidByText := true, laidKinds := [.data], laidTests := true, laidLooks := .later }
def FnStepBrokenCardSaid : Prop := Claim7.holds Tryd.pinned (.plain (OpenSpec.ofChange fnStepBrokenSpec)) fnStepBrokenCard

/-- THE TIED CARD OF 'laws.FnAdvanced'. -/
def fnAdvancedCard : Claim7 := { stood := { row := fnAdvancedRow, standIns := [], harness := (true, "eb120034a033ee8bd798de9114ee5de4080ec395a7dcfd564adcea0d00f6848d"), looks := true }, kinds := [], alts := [], laidByText := true, laidKinds := [.data], laidTests := true, laidLooks := .later }
def FnAdvancedCardSaid : Prop := Claim7.holds Tryd.pinned (.plain (OpenSpec.ofChange fnAdvancedSpec)) fnAdvancedCard

/-- THE TIED CARD OF 'laws.FnAdvancedFault'. -/
def fnAdvancedFaultCard : Claim7 := { stood := { row := fnAdvancedFaultRow, standIns := [], harness := (true, "eb120034a033ee8bd798de9114ee5de4080ec395a7dcfd564adcea0d00f6848d"), looks := true }, kinds := [], alts := [], laidByText := true, laidKinds := [.data], laidTests := true, laidLooks := .later }
def FnAdvancedFaultCardSaid : Prop := Claim7.holds Tryd.pinned (.plain (OpenSpec.ofChange fnAdvancedFaultSpec)) fnAdvancedFaultCard

/-- THE TIED CARD OF 'laws.FnValid'. -/
def fnValidCard : Claim7 := { stood := { row := fnValidRow, standIns := [], harness := (true, "eb120034a033ee8bd798de9114ee5de4080ec395a7dcfd564adcea0d00f6848d"), looks := true }, kinds := [], alts := [], laidByText := true, laidKinds := [.data], laidTests := true, laidLooks := .later }
def FnValidCardSaid : Prop := Claim7.holds Tryd.pinned (.plain (OpenSpec.ofChange fnValidSpec)) fnValidCard

/-- THE TIED CARD OF 'laws.FnValidBegin'. -/
def fnValidBeginCard : Claim7 := { stood := { row := fnValidBeginRow, standIns := [], harness := (true, "eb120034a033ee8bd798de9114ee5de4080ec395a7dcfd564adcea0d00f6848d"), looks := true }, kinds := [], alts := [], laidByText := true, laidKinds := [.data], laidTests := true, laidLooks := .later }
def FnValidBeginCardSaid : Prop := Claim7.holds Tryd.pinned (.plain (OpenSpec.ofChange fnValidBeginSpec)) fnValidBeginCard

/-- THE TIED CARD OF 'laws.FnValidEnd'. -/
def fnValidEndCard : Claim7 := { stood := { row := fnValidEndRow, standIns := [], harness := (true, "eb120034a033ee8bd798de9114ee5de4080ec395a7dcfd564adcea0d00f6848d"), looks := true }, kinds := [], alts := [], laidByText := true, laidKinds := [.data], laidTests := true, laidLooks := .later }
def FnValidEndCardSaid : Prop := Claim7.holds Tryd.pinned (.plain (OpenSpec.ofChange fnValidEndSpec)) fnValidEndCard

/-- THE TIED CARD OF 'laws.FnValidJoined'. -/
def fnValidJoinedCard : Claim7 := { stood := { row := fnValidJoinedRow, standIns := [], harness := (true, "eb120034a033ee8bd798de9114ee5de4080ec395a7dcfd564adcea0d00f6848d"), looks := true }, kinds := [], alts := [], laidByText := true, laidKinds := [.data], laidTests := true, laidLooks := .later }
def FnValidJoinedCardSaid : Prop := Claim7.holds Tryd.pinned (.plain (OpenSpec.ofChange fnValidJoinedSpec)) fnValidJoinedCard

/-- THE TIED CARD OF 'laws.FnValidMarks'. -/
def fnValidMarksCard : Claim7 := { stood := { row := fnValidMarksRow, standIns := [], harness := (true, "eb120034a033ee8bd798de9114ee5de4080ec395a7dcfd564adcea0d00f6848d"), looks := true }, kinds := [], alts := [], laidByText := true, laidKinds := [.data], laidTests := true, laidLooks := .later }
def FnValidMarksCardSaid : Prop := Claim7.holds Tryd.pinned (.plain (OpenSpec.ofChange fnValidMarksSpec)) fnValidMarksCard

/-- THE TIED CARD OF 'laws.FnValidNumbers'. -/
def fnValidNumbersCard : Claim7 := { stood := { row := fnValidNumbersRow, standIns := [], harness := (true, "eb120034a033ee8bd798de9114ee5de4080ec395a7dcfd564adcea0d00f6848d"), looks := true }, kinds := [], alts := [], laidByText := true, laidKinds := [.data], laidTests := true, laidLooks := .later }
def FnValidNumbersCardSaid : Prop := Claim7.holds Tryd.pinned (.plain (OpenSpec.ofChange fnValidNumbersSpec)) fnValidNumbersCard

/-- THE TIED CARD OF 'laws.FnSpanPieces'. -/
def fnSpanPiecesCard : Claim7 := { stood := { row := fnSpanPiecesRow, standIns := [], harness := (true, "eb120034a033ee8bd798de9114ee5de4080ec395a7dcfd564adcea0d00f6848d"), looks := true }, kinds := [], alts := [], laidByText := true, laidKinds := [.sentinel, .data, .sentinel, .sentinel], laidTests := true, laidLooks := .later }
def FnSpanPiecesCardSaid : Prop := Claim7.holds Tryd.pinned (.plain (OpenSpec.ofChange fnSpanPiecesSpec)) fnSpanPiecesCard

/-- THE TIED CARD OF 'laws.FnTransformed'. -/
def fnTransformedCard : Claim7 := { stood := { row := fnTransformedRow, standIns := [], harness := (true, "eb120034a033ee8bd798de9114ee5de4080ec395a7dcfd564adcea0d00f6848d"), looks := true }, kinds := [], alts := [], laidByText := true, laidKinds := [.sentinel, .data, .sentinel, .sentinel], laidTests := true, laidLooks := .later }
def FnTransformedCardSaid : Prop := Claim7.holds Tryd.pinned (.plain (OpenSpec.ofChange fnTransformedSpec)) fnTransformedCard

/-- THE TIED CARD OF 'laws.FnTransformedShort'. -/
def fnTransformedShortCard : Claim7 := { stood := { row := fnTransformedShortRow, standIns := [], harness := (true, "eb120034a033ee8bd798de9114ee5de4080ec395a7dcfd564adcea0d00f6848d"), looks := true }, kinds := [], alts := [], laidByText := true, laidKinds := [.sentinel, .data, .sentinel, .sentinel], laidTests := true, laidLooks := .later }
def FnTransformedShortCardSaid : Prop := Claim7.holds Tryd.pinned (.plain (OpenSpec.ofChange fnTransformedShortSpec)) fnTransformedShortCard

/-- THE SECOND FORM's CARD OF 'laws.FnStep'. -/
def fnStepUptoCard : Claim7 := { stood := { row := fnStepUptoRow, standIns := [], harness := (true, "eb120034a033ee8bd798de9114ee5de4080ec395a7dcfd564adcea0d00f6848d"), looks := true }, kinds := [], alts := [], laidByText := true, laidKinds := [.data], laidTests := true, laidLooks := .later }
def FnStepUptoCardSaid : Prop := Claim7.holds Tryd.pinned (.plain (OpenSpec.upto fnStepSpec)) fnStepUptoCard

/-- THE SECOND FORM's CARD OF 'laws.FnStepBroken'. -/
def fnStepBrokenUptoCard : Claim7 := { stood := { row := fnStepBrokenUptoRow, standIns := [], harness := (true, "eb120034a033ee8bd798de9114ee5de4080ec395a7dcfd564adcea0d00f6848d"), looks := true }, kinds := [], alts := [], laidByText := true, laidKinds := [.data], laidTests := true, laidLooks := .later }
def FnStepBrokenUptoCardSaid : Prop := Claim7.holds Tryd.pinned (.plain (OpenSpec.upto fnStepBrokenSpec)) fnStepBrokenUptoCard

/-- THE SECOND FORM's CARD OF 'laws.FnAdvanced'. -/
def fnAdvancedUptoCard : Claim7 := { stood := { row := fnAdvancedUptoRow, standIns := [], harness := (true, "eb120034a033ee8bd798de9114ee5de4080ec395a7dcfd564adcea0d00f6848d"), looks := true }, kinds := [], alts := [], laidByText := true, laidKinds := [.data], laidTests := true, laidLooks := .later }
def FnAdvancedUptoCardSaid : Prop := Claim7.holds Tryd.pinned (.plain (OpenSpec.upto fnAdvancedSpec)) fnAdvancedUptoCard

/-- THE SECOND FORM's CARD OF 'laws.FnAdvancedFault'. -/
def fnAdvancedFaultUptoCard : Claim7 := { stood := { row := fnAdvancedFaultUptoRow, standIns := [], harness := (true, "eb120034a033ee8bd798de9114ee5de4080ec395a7dcfd564adcea0d00f6848d"), looks := true }, kinds := [], alts := [], laidByText := true, laidKinds := [.data], laidTests := true, laidLooks := .later }
def FnAdvancedFaultUptoCardSaid : Prop := Claim7.holds Tryd.pinned (.plain (OpenSpec.upto fnAdvancedFaultSpec)) fnAdvancedFaultUptoCard

/-- THE SECOND FORM's CARD OF 'laws.FnValid'. -/
def fnValidUptoCard : Claim7 := { stood := { row := fnValidUptoRow, standIns := [], harness := (true, "eb120034a033ee8bd798de9114ee5de4080ec395a7dcfd564adcea0d00f6848d"), looks := true }, kinds := [], alts := [], laidByText := true, laidKinds := [.data], laidTests := true, laidLooks := .later }
def FnValidUptoCardSaid : Prop := Claim7.holds Tryd.pinned (.plain (OpenSpec.upto fnValidSpec)) fnValidUptoCard

/-- THE SECOND FORM's CARD OF 'laws.FnValidBegin'. -/
def fnValidBeginUptoCard : Claim7 := { stood := { row := fnValidBeginUptoRow, standIns := [], harness := (true, "eb120034a033ee8bd798de9114ee5de4080ec395a7dcfd564adcea0d00f6848d"), looks := true }, kinds := [], alts := [], laidByText := true, laidKinds := [.data], laidTests := true, laidLooks := .later }
def FnValidBeginUptoCardSaid : Prop := Claim7.holds Tryd.pinned (.plain (OpenSpec.upto fnValidBeginSpec)) fnValidBeginUptoCard

/-- THE SECOND FORM's CARD OF 'laws.FnValidEnd'. -/
def fnValidEndUptoCard : Claim7 := { stood := { row := fnValidEndUptoRow, standIns := [], harness := (true, "eb120034a033ee8bd798de9114ee5de4080ec395a7dcfd564adcea0d00f6848d"), looks := true }, kinds := [], alts := [], laidByText := true, laidKinds := [.data], laidTests := true, laidLooks := .later }
def FnValidEndUptoCardSaid : Prop := Claim7.holds Tryd.pinned (.plain (OpenSpec.upto fnValidEndSpec)) fnValidEndUptoCard

/-- THE SECOND FORM's CARD OF 'laws.FnValidJoined'. -/
def fnValidJoinedUptoCard : Claim7 := { stood := { row := fnValidJoinedUptoRow, standIns := [], harness := (true, "eb120034a033ee8bd798de9114ee5de4080ec395a7dcfd564adcea0d00f6848d"), looks := true }, kinds := [], alts := [], laidByText := true, laidKinds := [.data], laidTests := true, laidLooks := .later }
def FnValidJoinedUptoCardSaid : Prop := Claim7.holds Tryd.pinned (.plain (OpenSpec.upto fnValidJoinedSpec)) fnValidJoinedUptoCard

/-- THE SECOND FORM's CARD OF 'laws.FnValidMarks'. -/
def fnValidMarksUptoCard : Claim7 := { stood := { row := fnValidMarksUptoRow, standIns := [], harness := (true, "eb120034a033ee8bd798de9114ee5de4080ec395a7dcfd564adcea0d00f6848d"), looks := true }, kinds := [], alts := [], laidByText := true, laidKinds := [.data], laidTests := true, laidLooks := .later }
def FnValidMarksUptoCardSaid : Prop := Claim7.holds Tryd.pinned (.plain (OpenSpec.upto fnValidMarksSpec)) fnValidMarksUptoCard

/-- THE SECOND FORM's CARD OF 'laws.FnValidNumbers'. -/
def fnValidNumbersUptoCard : Claim7 := { stood := { row := fnValidNumbersUptoRow, standIns := [], harness := (true, "eb120034a033ee8bd798de9114ee5de4080ec395a7dcfd564adcea0d00f6848d"), looks := true }, kinds := [], alts := [], laidByText := true, laidKinds := [.data], laidTests := true, laidLooks := .later }
def FnValidNumbersUptoCardSaid : Prop := Claim7.holds Tryd.pinned (.plain (OpenSpec.upto fnValidNumbersSpec)) fnValidNumbersUptoCard

/-- THE SECOND FORM's CARD OF 'laws.FnSpanPieces'. -/
def fnSpanPiecesUptoCard : Claim7 := { stood := { row := fnSpanPiecesUptoRow, standIns := [], harness := (true, "eb120034a033ee8bd798de9114ee5de4080ec395a7dcfd564adcea0d00f6848d"), looks := true }, kinds := [], alts := [], laidByText := true, laidKinds := [.sentinel, .data, .sentinel, .sentinel], laidTests := true, laidLooks := .later }
def FnSpanPiecesUptoCardSaid : Prop := Claim7.holds Tryd.pinned (.plain (OpenSpec.upto fnSpanPiecesSpec)) fnSpanPiecesUptoCard

/-- THE SECOND FORM's CARD OF 'laws.FnTransformed'. -/
def fnTransformedUptoCard : Claim7 := { stood := { row := fnTransformedUptoRow, standIns := [], harness := (true, "eb120034a033ee8bd798de9114ee5de4080ec395a7dcfd564adcea0d00f6848d"), looks := true }, kinds := [], alts := [], laidByText := true, laidKinds := [.sentinel, .data, .sentinel, .sentinel], laidTests := true, laidLooks := .later }
def FnTransformedUptoCardSaid : Prop := Claim7.holds Tryd.pinned (.plain (OpenSpec.upto fnTransformedSpec)) fnTransformedUptoCard

/-- THE SECOND FORM's CARD OF 'laws.FnTransformedShort'. -/
def fnTransformedShortUptoCard : Claim7 := { stood := { row := fnTransformedShortUptoRow, standIns := [], harness := (true, "eb120034a033ee8bd798de9114ee5de4080ec395a7dcfd564adcea0d00f6848d"), looks := true }, kinds := [], alts := [], laidByText := true, laidKinds := [.sentinel, .data, .sentinel, .sentinel], laidTests := true, laidLooks := .later }
def FnTransformedShortUptoCardSaid : Prop := Claim7.holds Tryd.pinned (.plain (OpenSpec.upto fnTransformedShortSpec)) fnTransformedShortUptoCard
end Rows
end Go.Proofs.YtoceibpgapjhcaaDoor
