/-
  NARROWER THAN 'FOR EVERY INPUT', by the rows' own cells (each row's printed sentence says how): FnStep: laid · FnStepBroken: laid · FnAdvanced: laid · FnAdvancedFault: laid · FnValid: laid · FnValidBegin: laid · FnValidEnd: laid · FnValidJoined: laid · FnValidMarks: laid · FnValidNumbers: laid · FnSpanPieces: ifaces, laid · FnTransformed: ifaces, laid · FnTransformedShort: ifaces, laid.
  DERIVED. THE GIVEN ROWS OF THIS SEAT. 13 by the template 'for every input the law returns true; each argument reads behind the call as it read before'; 0 by the template 'total and deterministic' (their statements: YtoceibpgapjhcaaDoorTotals.lean).
  GIVEN WITH THE SEED: the statements are not yours to turn. If you find one false, say at which input.
  Laid BY PROGRAM, IN A SANDBOX (cutbox-rows.mjs): the forced cells as the released guide's own fill.sh prints them over the translation 13295e1cbc421a86… (all of the seat's roots in one cut). By AI agents, Wed Nov 11 2026. No macro, syntax, notation, axiom, sorry.
-/
import Derived.Test.YtoceibpgapjhcaaDoorChecked
import GoSem.Claim
import GoSem.ClaimJoined
import GoSem.ClaimMapViews
import Derived.JoinedTies
import Derived.KernelRfl
namespace Go.Proofs.YtoceibpgapjhcaaDoor
/- THE CELL 'sum', in the pinned program and in every row, IS THE sha256 OF THE DUMP (.gsa) THAT YtoceibpgapjhcaaDoorProg.lean LOADS. Nothing in Lean hashes anything: it is a label: what it is worth is what the hold of that sum in a sandbox is worth. -/
noncomputable def Tryd.pinned : Pinned := { name := "ytoceibpgapjhcaadoor", sum := "13295e1cbc421a863ec471525c83d70ccecf27b078fb69549aed61a5f9fe2e58", checked := Tryd.checked }
namespace Rows
def none {H : Type} : Left H := { results := [], args := [] }

/- WHAT THE LISTED PACKAGE-LEVEL VARIABLES READ AS WHEN THE CALL BEGINS. Each datum BY PROGRAM (the guide's laid-datum.mjs) off the statement by which the dump's own 'gosem.cut.vars' lays the variable. In a bare row this is a premise. The card (YtoceibpgapjhcaaDoorCards.lean) ties it to the program's text. -/
def laid_loop_example_pub_g01468_pub_bidirule_transitions {H : Type} : DataW H := .agg [.agg [.agg [.lit (.int .u8 2), .lit (.int .u16 1)], .agg [.lit (.int .u8 4), .lit (.int .u16 8194)]], .agg [.agg [.lit (.int .u8 2), .lit (.int .u16 5)], .agg [.lit (.int .u8 1), .lit (.int .u16 7256)]], .agg [.agg [.lit (.int .u8 2), .lit (.int .u16 4101)], .agg [.lit (.int .u8 1), .lit (.int .u16 3160)]], .agg [.agg [.lit (.int .u8 4), .lit (.int .u16 8230)], .agg [.lit (.int .u8 3), .lit (.int .u16 7256)]], .agg [.agg [.lit (.int .u8 4), .lit (.int .u16 12326)], .agg [.lit (.int .u8 3), .lit (.int .u16 3160)]], .agg [.agg [.lit (.int .u8 5), .lit (.int .u16 0)], .agg [.lit (.int .u8 5), .lit (.int .u16 0)]]]
def laid_loop_example_pub_g01468_pub_bidirule_ErrInvalid {H : Type} : DataW H := .iface "*errors.errorString" (.ptr (.agg [.lit (.string [98, 105, 100, 105, 114, 117, 108, 101, 58, 32, 102, 97, 105, 108, 101, 100, 32, 66, 105, 100, 105, 32, 82, 117, 108, 101])]))
def laid_loop_example_pub_g01468_pub_bidirule_ErrShortDst {H : Type} : DataW H := .iface "*errors.errorString" (.ptr (.agg [.lit (.string [116, 114, 97, 110, 115, 102, 111, 114, 109, 58, 32, 115, 104, 111, 114, 116, 32, 100, 101, 115, 116, 105, 110, 97, 116, 105, 111, 110, 32, 98, 117, 102, 102, 101, 114])]))
def laid_loop_example_pub_g01468_pub_bidirule_ErrShortSrc {H : Type} : DataW H := .iface "*errors.errorString" (.ptr (.agg [.lit (.string [116, 114, 97, 110, 115, 102, 111, 114, 109, 58, 32, 115, 104, 111, 114, 116, 32, 115, 111, 117, 114, 99, 101, 32, 98, 117, 102, 102, 101, 114])]))

/-- 'laws.FnStep': WHATEVER THE INPUT: true; the input reads as it did. -/
def fnStepSpec : ChangeSpec := { name := "fnStep", vars := ["loop.example/pub-g01468/pub/bidirule.transitions"], fn := fun _ => fun
  | [d1, d2, g1] => { results := [.lit (.bool true)], args := [d1, d2], vars := [g1] }
  | _ => none }
def fnStepRow : OpenClaim := { program := "ytoceibpgapjhcaadoor", sum := "13295e1cbc421a863ec471525c83d70ccecf27b078fb69549aed61a5f9fe2e58", func := "loop.example/pub-g01468/laws.FnStep", spec := "fnStep", named := ["loop.example/pub-g01468/pub/bidirule.transitions"], apart := false, laid := [("loop.example/pub-g01468/pub/bidirule.transitions", laid_loop_example_pub_g01468_pub_bidirule_transitions)] }
def FnStepSaid : Prop := fnStepRow.holds Tryd.pinned (OpenSpec.ofChange fnStepSpec)

/-- ITS FALSE NEIGHBOUR: 'it returns false'. Refute it at one input. -/
def fnStepWrong : ChangeSpec := { name := "fnStep", vars := ["loop.example/pub-g01468/pub/bidirule.transitions"], fn := fun _ => fun
  | [d1, d2, g1] => { results := [.lit (.bool false)], args := [d1, d2], vars := [g1] }
  | _ => none }
def FnStepWrongFalsely : Prop := fnStepRow.holds Tryd.pinned (OpenSpec.ofChange fnStepWrong)

/-- 'laws.FnStepBroken': WHATEVER THE INPUT: true; the input reads as it did. -/
def fnStepBrokenSpec : ChangeSpec := { name := "fnStepBroken", vars := ["loop.example/pub-g01468/pub/bidirule.transitions"], fn := fun _ => fun
  | [d1, d2, g1] => { results := [.lit (.bool true)], args := [d1, d2], vars := [g1] }
  | _ => none }
def fnStepBrokenRow : OpenClaim := { program := "ytoceibpgapjhcaadoor", sum := "13295e1cbc421a863ec471525c83d70ccecf27b078fb69549aed61a5f9fe2e58", func := "loop.example/pub-g01468/laws.FnStepBroken", spec := "fnStepBroken", named := ["loop.example/pub-g01468/pub/bidirule.transitions"], apart := false, laid := [("loop.example/pub-g01468/pub/bidirule.transitions", laid_loop_example_pub_g01468_pub_bidirule_transitions)] }
def FnStepBrokenSaid : Prop := fnStepBrokenRow.holds Tryd.pinned (OpenSpec.ofChange fnStepBrokenSpec)

/-- ITS FALSE NEIGHBOUR: 'it returns false'. Refute it at one input. -/
def fnStepBrokenWrong : ChangeSpec := { name := "fnStepBroken", vars := ["loop.example/pub-g01468/pub/bidirule.transitions"], fn := fun _ => fun
  | [d1, d2, g1] => { results := [.lit (.bool false)], args := [d1, d2], vars := [g1] }
  | _ => none }
def FnStepBrokenWrongFalsely : Prop := fnStepBrokenRow.holds Tryd.pinned (OpenSpec.ofChange fnStepBrokenWrong)

/-- 'laws.FnAdvanced': WHATEVER THE INPUT: true; the input reads as it did. -/
def fnAdvancedSpec : ChangeSpec := { name := "fnAdvanced", vars := ["loop.example/pub-g01468/pub/bidirule.transitions"], fn := fun _ => fun
  | [d, g1] => { results := [.lit (.bool true)], args := [d], vars := [g1] }
  | _ => none }
def fnAdvancedRow : OpenClaim := { program := "ytoceibpgapjhcaadoor", sum := "13295e1cbc421a863ec471525c83d70ccecf27b078fb69549aed61a5f9fe2e58", func := "loop.example/pub-g01468/laws.FnAdvanced", spec := "fnAdvanced", named := ["loop.example/pub-g01468/pub/bidirule.transitions"], apart := false, laid := [("loop.example/pub-g01468/pub/bidirule.transitions", laid_loop_example_pub_g01468_pub_bidirule_transitions)] }
def FnAdvancedSaid : Prop := fnAdvancedRow.holds Tryd.pinned (OpenSpec.ofChange fnAdvancedSpec)

/-- ITS FALSE NEIGHBOUR: 'it returns false'. Refute it at one input. -/
def fnAdvancedWrong : ChangeSpec := { name := "fnAdvanced", vars := ["loop.example/pub-g01468/pub/bidirule.transitions"], fn := fun _ => fun
  | [d, g1] => { results := [.lit (.bool false)], args := [d], vars := [g1] }
  | _ => none }
def FnAdvancedWrongFalsely : Prop := fnAdvancedRow.holds Tryd.pinned (OpenSpec.ofChange fnAdvancedWrong)

/-- 'laws.FnAdvancedFault': WHATEVER THE INPUT: true; the input reads as it did. -/
def fnAdvancedFaultSpec : ChangeSpec := { name := "fnAdvancedFault", vars := ["loop.example/pub-g01468/pub/bidirule.transitions"], fn := fun _ => fun
  | [d, g1] => { results := [.lit (.bool true)], args := [d], vars := [g1] }
  | _ => none }
def fnAdvancedFaultRow : OpenClaim := { program := "ytoceibpgapjhcaadoor", sum := "13295e1cbc421a863ec471525c83d70ccecf27b078fb69549aed61a5f9fe2e58", func := "loop.example/pub-g01468/laws.FnAdvancedFault", spec := "fnAdvancedFault", named := ["loop.example/pub-g01468/pub/bidirule.transitions"], apart := false, laid := [("loop.example/pub-g01468/pub/bidirule.transitions", laid_loop_example_pub_g01468_pub_bidirule_transitions)] }
def FnAdvancedFaultSaid : Prop := fnAdvancedFaultRow.holds Tryd.pinned (OpenSpec.ofChange fnAdvancedFaultSpec)

/-- ITS FALSE NEIGHBOUR: 'it returns false'. Refute it at one input. -/
def fnAdvancedFaultWrong : ChangeSpec := { name := "fnAdvancedFault", vars := ["loop.example/pub-g01468/pub/bidirule.transitions"], fn := fun _ => fun
  | [d, g1] => { results := [.lit (.bool false)], args := [d], vars := [g1] }
  | _ => none }
def FnAdvancedFaultWrongFalsely : Prop := fnAdvancedFaultRow.holds Tryd.pinned (OpenSpec.ofChange fnAdvancedFaultWrong)

/-- 'laws.FnValid': WHATEVER THE INPUT: true; the input reads as it did. -/
def fnValidSpec : ChangeSpec := { name := "fnValid", vars := ["loop.example/pub-g01468/pub/bidirule.transitions"], fn := fun _ => fun
  | [d, g1] => { results := [.lit (.bool true)], args := [d], vars := [g1] }
  | _ => none }
def fnValidRow : OpenClaim := { program := "ytoceibpgapjhcaadoor", sum := "13295e1cbc421a863ec471525c83d70ccecf27b078fb69549aed61a5f9fe2e58", func := "loop.example/pub-g01468/laws.FnValid", spec := "fnValid", named := ["loop.example/pub-g01468/pub/bidirule.transitions"], apart := false, laid := [("loop.example/pub-g01468/pub/bidirule.transitions", laid_loop_example_pub_g01468_pub_bidirule_transitions)] }
def FnValidSaid : Prop := fnValidRow.holds Tryd.pinned (OpenSpec.ofChange fnValidSpec)

/-- ITS FALSE NEIGHBOUR: 'it returns false'. Refute it at one input. -/
def fnValidWrong : ChangeSpec := { name := "fnValid", vars := ["loop.example/pub-g01468/pub/bidirule.transitions"], fn := fun _ => fun
  | [d, g1] => { results := [.lit (.bool false)], args := [d], vars := [g1] }
  | _ => none }
def FnValidWrongFalsely : Prop := fnValidRow.holds Tryd.pinned (OpenSpec.ofChange fnValidWrong)

/-- 'laws.FnValidBegin': WHATEVER THE INPUT: true; the input reads as it did. -/
def fnValidBeginSpec : ChangeSpec := { name := "fnValidBegin", vars := ["loop.example/pub-g01468/pub/bidirule.transitions"], fn := fun _ => fun
  | [d, g1] => { results := [.lit (.bool true)], args := [d], vars := [g1] }
  | _ => none }
def fnValidBeginRow : OpenClaim := { program := "ytoceibpgapjhcaadoor", sum := "13295e1cbc421a863ec471525c83d70ccecf27b078fb69549aed61a5f9fe2e58", func := "loop.example/pub-g01468/laws.FnValidBegin", spec := "fnValidBegin", named := ["loop.example/pub-g01468/pub/bidirule.transitions"], apart := false, laid := [("loop.example/pub-g01468/pub/bidirule.transitions", laid_loop_example_pub_g01468_pub_bidirule_transitions)] }
def FnValidBeginSaid : Prop := fnValidBeginRow.holds Tryd.pinned (OpenSpec.ofChange fnValidBeginSpec)

/-- ITS FALSE NEIGHBOUR: 'it returns false'. Refute it at one input. -/
def fnValidBeginWrong : ChangeSpec := { name := "fnValidBegin", vars := ["loop.example/pub-g01468/pub/bidirule.transitions"], fn := fun _ => fun
  | [d, g1] => { results := [.lit (.bool false)], args := [d], vars := [g1] }
  | _ => none }
def FnValidBeginWrongFalsely : Prop := fnValidBeginRow.holds Tryd.pinned (OpenSpec.ofChange fnValidBeginWrong)

/-- 'laws.FnValidEnd': WHATEVER THE INPUT: true; the input reads as it did. -/
def fnValidEndSpec : ChangeSpec := { name := "fnValidEnd", vars := ["loop.example/pub-g01468/pub/bidirule.transitions"], fn := fun _ => fun
  | [d1, d2, g1] => { results := [.lit (.bool true)], args := [d1, d2], vars := [g1] }
  | _ => none }
def fnValidEndRow : OpenClaim := { program := "ytoceibpgapjhcaadoor", sum := "13295e1cbc421a863ec471525c83d70ccecf27b078fb69549aed61a5f9fe2e58", func := "loop.example/pub-g01468/laws.FnValidEnd", spec := "fnValidEnd", named := ["loop.example/pub-g01468/pub/bidirule.transitions"], apart := false, laid := [("loop.example/pub-g01468/pub/bidirule.transitions", laid_loop_example_pub_g01468_pub_bidirule_transitions)] }
def FnValidEndSaid : Prop := fnValidEndRow.holds Tryd.pinned (OpenSpec.ofChange fnValidEndSpec)

/-- ITS FALSE NEIGHBOUR: 'it returns false'. Refute it at one input. -/
def fnValidEndWrong : ChangeSpec := { name := "fnValidEnd", vars := ["loop.example/pub-g01468/pub/bidirule.transitions"], fn := fun _ => fun
  | [d1, d2, g1] => { results := [.lit (.bool false)], args := [d1, d2], vars := [g1] }
  | _ => none }
def FnValidEndWrongFalsely : Prop := fnValidEndRow.holds Tryd.pinned (OpenSpec.ofChange fnValidEndWrong)

/-- 'laws.FnValidJoined': WHATEVER THE INPUT: true; the input reads as it did. -/
def fnValidJoinedSpec : ChangeSpec := { name := "fnValidJoined", vars := ["loop.example/pub-g01468/pub/bidirule.transitions"], fn := fun _ => fun
  | [d1, d2, g1] => { results := [.lit (.bool true)], args := [d1, d2], vars := [g1] }
  | _ => none }
def fnValidJoinedRow : OpenClaim := { program := "ytoceibpgapjhcaadoor", sum := "13295e1cbc421a863ec471525c83d70ccecf27b078fb69549aed61a5f9fe2e58", func := "loop.example/pub-g01468/laws.FnValidJoined", spec := "fnValidJoined", named := ["loop.example/pub-g01468/pub/bidirule.transitions"], apart := false, laid := [("loop.example/pub-g01468/pub/bidirule.transitions", laid_loop_example_pub_g01468_pub_bidirule_transitions)] }
def FnValidJoinedSaid : Prop := fnValidJoinedRow.holds Tryd.pinned (OpenSpec.ofChange fnValidJoinedSpec)

/-- ITS FALSE NEIGHBOUR: 'it returns false'. Refute it at one input. -/
def fnValidJoinedWrong : ChangeSpec := { name := "fnValidJoined", vars := ["loop.example/pub-g01468/pub/bidirule.transitions"], fn := fun _ => fun
  | [d1, d2, g1] => { results := [.lit (.bool false)], args := [d1, d2], vars := [g1] }
  | _ => none }
def FnValidJoinedWrongFalsely : Prop := fnValidJoinedRow.holds Tryd.pinned (OpenSpec.ofChange fnValidJoinedWrong)

/-- 'laws.FnValidMarks': WHATEVER THE INPUT: true; the input reads as it did. -/
def fnValidMarksSpec : ChangeSpec := { name := "fnValidMarks", vars := ["loop.example/pub-g01468/pub/bidirule.transitions"], fn := fun _ => fun
  | [d1, d2, g1] => { results := [.lit (.bool true)], args := [d1, d2], vars := [g1] }
  | _ => none }
def fnValidMarksRow : OpenClaim := { program := "ytoceibpgapjhcaadoor", sum := "13295e1cbc421a863ec471525c83d70ccecf27b078fb69549aed61a5f9fe2e58", func := "loop.example/pub-g01468/laws.FnValidMarks", spec := "fnValidMarks", named := ["loop.example/pub-g01468/pub/bidirule.transitions"], apart := false, laid := [("loop.example/pub-g01468/pub/bidirule.transitions", laid_loop_example_pub_g01468_pub_bidirule_transitions)] }
def FnValidMarksSaid : Prop := fnValidMarksRow.holds Tryd.pinned (OpenSpec.ofChange fnValidMarksSpec)

/-- ITS FALSE NEIGHBOUR: 'it returns false'. Refute it at one input. -/
def fnValidMarksWrong : ChangeSpec := { name := "fnValidMarks", vars := ["loop.example/pub-g01468/pub/bidirule.transitions"], fn := fun _ => fun
  | [d1, d2, g1] => { results := [.lit (.bool false)], args := [d1, d2], vars := [g1] }
  | _ => none }
def FnValidMarksWrongFalsely : Prop := fnValidMarksRow.holds Tryd.pinned (OpenSpec.ofChange fnValidMarksWrong)

/-- 'laws.FnValidNumbers': WHATEVER THE INPUT: true; the input reads as it did. -/
def fnValidNumbersSpec : ChangeSpec := { name := "fnValidNumbers", vars := ["loop.example/pub-g01468/pub/bidirule.transitions"], fn := fun _ => fun
  | [d1, d2, g1] => { results := [.lit (.bool true)], args := [d1, d2], vars := [g1] }
  | _ => none }
def fnValidNumbersRow : OpenClaim := { program := "ytoceibpgapjhcaadoor", sum := "13295e1cbc421a863ec471525c83d70ccecf27b078fb69549aed61a5f9fe2e58", func := "loop.example/pub-g01468/laws.FnValidNumbers", spec := "fnValidNumbers", named := ["loop.example/pub-g01468/pub/bidirule.transitions"], apart := false, laid := [("loop.example/pub-g01468/pub/bidirule.transitions", laid_loop_example_pub_g01468_pub_bidirule_transitions)] }
def FnValidNumbersSaid : Prop := fnValidNumbersRow.holds Tryd.pinned (OpenSpec.ofChange fnValidNumbersSpec)

/-- ITS FALSE NEIGHBOUR: 'it returns false'. Refute it at one input. -/
def fnValidNumbersWrong : ChangeSpec := { name := "fnValidNumbers", vars := ["loop.example/pub-g01468/pub/bidirule.transitions"], fn := fun _ => fun
  | [d1, d2, g1] => { results := [.lit (.bool false)], args := [d1, d2], vars := [g1] }
  | _ => none }
def FnValidNumbersWrongFalsely : Prop := fnValidNumbersRow.holds Tryd.pinned (OpenSpec.ofChange fnValidNumbersWrong)

/-- 'laws.FnSpanPieces': WHATEVER THE INPUT: true; the input reads as it did. -/
def fnSpanPiecesSpec : ChangeSpec := { name := "fnSpanPieces", vars := ["loop.example/pub-g01468/pub/bidirule.ErrInvalid", "loop.example/pub-g01468/pub/bidirule.ErrShortSrc", "loop.example/pub-g01468/pub/bidirule.transitions", "loop.example/pub-g01468/pub/bidirule.ErrShortDst"], fn := fun _ => fun
  | [d, g1, g2, g3, g4] => { results := [.lit (.bool true)], args := [d], vars := [g1, g2, g3, g4] }
  | _ => none }
def fnSpanPiecesRow : OpenClaim := { program := "ytoceibpgapjhcaadoor", sum := "13295e1cbc421a863ec471525c83d70ccecf27b078fb69549aed61a5f9fe2e58", func := "loop.example/pub-g01468/laws.FnSpanPieces", spec := "fnSpanPieces", inPlace := ["internal/reflectlite.TypeOf"], unfollowed := true, recurses := true, named := ["loop.example/pub-g01468/pub/bidirule.ErrInvalid", "loop.example/pub-g01468/pub/bidirule.ErrShortSrc", "loop.example/pub-g01468/pub/bidirule.transitions", "loop.example/pub-g01468/pub/bidirule.ErrShortDst"], ifaces := true, apart := false, laid := [("loop.example/pub-g01468/pub/bidirule.ErrInvalid", laid_loop_example_pub_g01468_pub_bidirule_ErrInvalid), ("loop.example/pub-g01468/pub/bidirule.transitions", laid_loop_example_pub_g01468_pub_bidirule_transitions), ("loop.example/pub-g01468/pub/bidirule.ErrShortDst", laid_loop_example_pub_g01468_pub_bidirule_ErrShortDst), ("loop.example/pub-g01468/pub/bidirule.ErrShortSrc", laid_loop_example_pub_g01468_pub_bidirule_ErrShortSrc)] }
def FnSpanPiecesSaid : Prop := fnSpanPiecesRow.holds Tryd.pinned (OpenSpec.ofChange fnSpanPiecesSpec)

/-- ITS FALSE NEIGHBOUR: 'it returns false'. Refute it at one input. -/
def fnSpanPiecesWrong : ChangeSpec := { name := "fnSpanPieces", vars := ["loop.example/pub-g01468/pub/bidirule.ErrInvalid", "loop.example/pub-g01468/pub/bidirule.ErrShortSrc", "loop.example/pub-g01468/pub/bidirule.transitions", "loop.example/pub-g01468/pub/bidirule.ErrShortDst"], fn := fun _ => fun
  | [d, g1, g2, g3, g4] => { results := [.lit (.bool false)], args := [d], vars := [g1, g2, g3, g4] }
  | _ => none }
def FnSpanPiecesWrongFalsely : Prop := fnSpanPiecesRow.holds Tryd.pinned (OpenSpec.ofChange fnSpanPiecesWrong)

/-- 'laws.FnTransformed': WHATEVER THE INPUT: true; the input reads as it did. -/
def fnTransformedSpec : ChangeSpec := { name := "fnTransformed", vars := ["loop.example/pub-g01468/pub/bidirule.ErrShortDst", "loop.example/pub-g01468/pub/bidirule.ErrShortSrc", "loop.example/pub-g01468/pub/bidirule.ErrInvalid", "loop.example/pub-g01468/pub/bidirule.transitions"], fn := fun _ => fun
  | [d1, d2, g1, g2, g3, g4] => { results := [.lit (.bool true)], args := [d1, d2], vars := [g1, g2, g3, g4] }
  | _ => none }
def fnTransformedRow : OpenClaim := { program := "ytoceibpgapjhcaadoor", sum := "13295e1cbc421a863ec471525c83d70ccecf27b078fb69549aed61a5f9fe2e58", func := "loop.example/pub-g01468/laws.FnTransformed", spec := "fnTransformed", inPlace := ["internal/reflectlite.TypeOf"], unfollowed := true, recurses := true, named := ["loop.example/pub-g01468/pub/bidirule.ErrShortDst", "loop.example/pub-g01468/pub/bidirule.ErrShortSrc", "loop.example/pub-g01468/pub/bidirule.ErrInvalid", "loop.example/pub-g01468/pub/bidirule.transitions"], ifaces := true, apart := false, laid := [("loop.example/pub-g01468/pub/bidirule.ErrInvalid", laid_loop_example_pub_g01468_pub_bidirule_ErrInvalid), ("loop.example/pub-g01468/pub/bidirule.transitions", laid_loop_example_pub_g01468_pub_bidirule_transitions), ("loop.example/pub-g01468/pub/bidirule.ErrShortDst", laid_loop_example_pub_g01468_pub_bidirule_ErrShortDst), ("loop.example/pub-g01468/pub/bidirule.ErrShortSrc", laid_loop_example_pub_g01468_pub_bidirule_ErrShortSrc)] }
def FnTransformedSaid : Prop := fnTransformedRow.holds Tryd.pinned (OpenSpec.ofChange fnTransformedSpec)

/-- ITS FALSE NEIGHBOUR: 'it returns false'. Refute it at one input. -/
def fnTransformedWrong : ChangeSpec := { name := "fnTransformed", vars := ["loop.example/pub-g01468/pub/bidirule.ErrShortDst", "loop.example/pub-g01468/pub/bidirule.ErrShortSrc", "loop.example/pub-g01468/pub/bidirule.ErrInvalid", "loop.example/pub-g01468/pub/bidirule.transitions"], fn := fun _ => fun
  | [d1, d2, g1, g2, g3, g4] => { results := [.lit (.bool false)], args := [d1, d2], vars := [g1, g2, g3, g4] }
  | _ => none }
def FnTransformedWrongFalsely : Prop := fnTransformedRow.holds Tryd.pinned (OpenSpec.ofChange fnTransformedWrong)

/-- 'laws.FnTransformedShort': WHATEVER THE INPUT: true; the input reads as it did. -/
def fnTransformedShortSpec : ChangeSpec := { name := "fnTransformedShort", vars := ["loop.example/pub-g01468/pub/bidirule.ErrShortDst", "loop.example/pub-g01468/pub/bidirule.ErrShortSrc", "loop.example/pub-g01468/pub/bidirule.ErrInvalid", "loop.example/pub-g01468/pub/bidirule.transitions"], fn := fun _ => fun
  | [d1, d2, g1, g2, g3, g4] => { results := [.lit (.bool true)], args := [d1, d2], vars := [g1, g2, g3, g4] }
  | _ => none }
def fnTransformedShortRow : OpenClaim := { program := "ytoceibpgapjhcaadoor", sum := "13295e1cbc421a863ec471525c83d70ccecf27b078fb69549aed61a5f9fe2e58", func := "loop.example/pub-g01468/laws.FnTransformedShort", spec := "fnTransformedShort", inPlace := ["internal/reflectlite.TypeOf"], unfollowed := true, recurses := true, named := ["loop.example/pub-g01468/pub/bidirule.ErrShortDst", "loop.example/pub-g01468/pub/bidirule.ErrShortSrc", "loop.example/pub-g01468/pub/bidirule.ErrInvalid", "loop.example/pub-g01468/pub/bidirule.transitions"], ifaces := true, apart := false, laid := [("loop.example/pub-g01468/pub/bidirule.ErrInvalid", laid_loop_example_pub_g01468_pub_bidirule_ErrInvalid), ("loop.example/pub-g01468/pub/bidirule.transitions", laid_loop_example_pub_g01468_pub_bidirule_transitions), ("loop.example/pub-g01468/pub/bidirule.ErrShortDst", laid_loop_example_pub_g01468_pub_bidirule_ErrShortDst), ("loop.example/pub-g01468/pub/bidirule.ErrShortSrc", laid_loop_example_pub_g01468_pub_bidirule_ErrShortSrc)] }
def FnTransformedShortSaid : Prop := fnTransformedShortRow.holds Tryd.pinned (OpenSpec.ofChange fnTransformedShortSpec)

/-- ITS FALSE NEIGHBOUR: 'it returns false'. Refute it at one input. -/
def fnTransformedShortWrong : ChangeSpec := { name := "fnTransformedShort", vars := ["loop.example/pub-g01468/pub/bidirule.ErrShortDst", "loop.example/pub-g01468/pub/bidirule.ErrShortSrc", "loop.example/pub-g01468/pub/bidirule.ErrInvalid", "loop.example/pub-g01468/pub/bidirule.transitions"], fn := fun _ => fun
  | [d1, d2, g1, g2, g3, g4] => { results := [.lit (.bool false)], args := [d1, d2], vars := [g1, g2, g3, g4] }
  | _ => none }
def FnTransformedShortWrongFalsely : Prop := fnTransformedShortRow.holds Tryd.pinned (OpenSpec.ofChange fnTransformedShortWrong)

/- THE SECOND FORM. 'bulk': how many values and letters a reading holds, each counted each time it is reached (what is shared counts as often as it is met; a slice's spare places count too). A statement '..UptoSaid' is the law's where the arguments, and the package variables that the reading takes, are together of bulk at most 1048576: NARROWER than '..Said'. Prove '..Said' where nothing that the law and all that it calls make is longer than what came in: it says more and counts as full. Else prove '..UptoSaid'. A law counts once. -/
mutual
def uptoBulk {H : Type} : DataW H → Nat
  | .lit (.string bytes) => bytes.length + 1
  | .lit _ => 1
  | .nil => 1
  | .ptr d => uptoBulk d + 1
  | .slice elems spare => uptoBulkAll elems + uptoBulkAll spare + 1
  | .agg parts => uptoBulkAll parts + 1
  | .iface _ d => uptoBulk d + 1
  | .map entries => uptoBulkEntries entries + 1
  | .held _ => 1
def uptoBulkAll {H : Type} : List (DataW H) → Nat
  | [] => 0
  | d :: r => uptoBulk d + uptoBulkAll r
def uptoBulkEntries {H : Type} : List (Lit × DataW H) → Nat
  | [] => 0
  | x :: r => uptoBulkEntry x + uptoBulkEntries r
def uptoBulkEntry {H : Type} : Lit × DataW H → Nat
  | (.string bytes, d) => bytes.length + uptoBulk d + 1
  | (_, d) => uptoBulk d + 1
 end
def uptoSmall : (H : Type) → List (DataW H) → Bool := fun _ ds => decide (uptoBulkAll ds ≤ 1048576)
def OpenSpec.upto (s : _root_.Go.ChangeSpec) : _root_.Go.OpenSpec := { _root_.Go.OpenSpec.ofChange s with cond := some uptoSmall }

/-- 'laws.FnStep', WHERE WHAT IT READS IS OF BULK AT MOST 1048576: true; the input reads as it did. -/
def fnStepUptoRow : OpenClaim := { program := "ytoceibpgapjhcaadoor", sum := "13295e1cbc421a863ec471525c83d70ccecf27b078fb69549aed61a5f9fe2e58", func := "loop.example/pub-g01468/laws.FnStep", spec := "fnStep", named := ["loop.example/pub-g01468/pub/bidirule.transitions"], apart := false, laid := [("loop.example/pub-g01468/pub/bidirule.transitions", laid_loop_example_pub_g01468_pub_bidirule_transitions)], narrowed := true }
def FnStepUptoSaid : Prop := fnStepUptoRow.holds Tryd.pinned (OpenSpec.upto fnStepSpec)

/-- 'laws.FnStepBroken', WHERE WHAT IT READS IS OF BULK AT MOST 1048576: true; the input reads as it did. -/
def fnStepBrokenUptoRow : OpenClaim := { program := "ytoceibpgapjhcaadoor", sum := "13295e1cbc421a863ec471525c83d70ccecf27b078fb69549aed61a5f9fe2e58", func := "loop.example/pub-g01468/laws.FnStepBroken", spec := "fnStepBroken", named := ["loop.example/pub-g01468/pub/bidirule.transitions"], apart := false, laid := [("loop.example/pub-g01468/pub/bidirule.transitions", laid_loop_example_pub_g01468_pub_bidirule_transitions)], narrowed := true }
def FnStepBrokenUptoSaid : Prop := fnStepBrokenUptoRow.holds Tryd.pinned (OpenSpec.upto fnStepBrokenSpec)

/-- 'laws.FnAdvanced', WHERE WHAT IT READS IS OF BULK AT MOST 1048576: true; the input reads as it did. -/
def fnAdvancedUptoRow : OpenClaim := { program := "ytoceibpgapjhcaadoor", sum := "13295e1cbc421a863ec471525c83d70ccecf27b078fb69549aed61a5f9fe2e58", func := "loop.example/pub-g01468/laws.FnAdvanced", spec := "fnAdvanced", named := ["loop.example/pub-g01468/pub/bidirule.transitions"], apart := false, laid := [("loop.example/pub-g01468/pub/bidirule.transitions", laid_loop_example_pub_g01468_pub_bidirule_transitions)], narrowed := true }
def FnAdvancedUptoSaid : Prop := fnAdvancedUptoRow.holds Tryd.pinned (OpenSpec.upto fnAdvancedSpec)

/-- 'laws.FnAdvancedFault', WHERE WHAT IT READS IS OF BULK AT MOST 1048576: true; the input reads as it did. -/
def fnAdvancedFaultUptoRow : OpenClaim := { program := "ytoceibpgapjhcaadoor", sum := "13295e1cbc421a863ec471525c83d70ccecf27b078fb69549aed61a5f9fe2e58", func := "loop.example/pub-g01468/laws.FnAdvancedFault", spec := "fnAdvancedFault", named := ["loop.example/pub-g01468/pub/bidirule.transitions"], apart := false, laid := [("loop.example/pub-g01468/pub/bidirule.transitions", laid_loop_example_pub_g01468_pub_bidirule_transitions)], narrowed := true }
def FnAdvancedFaultUptoSaid : Prop := fnAdvancedFaultUptoRow.holds Tryd.pinned (OpenSpec.upto fnAdvancedFaultSpec)

/-- 'laws.FnValid', WHERE WHAT IT READS IS OF BULK AT MOST 1048576: true; the input reads as it did. -/
def fnValidUptoRow : OpenClaim := { program := "ytoceibpgapjhcaadoor", sum := "13295e1cbc421a863ec471525c83d70ccecf27b078fb69549aed61a5f9fe2e58", func := "loop.example/pub-g01468/laws.FnValid", spec := "fnValid", named := ["loop.example/pub-g01468/pub/bidirule.transitions"], apart := false, laid := [("loop.example/pub-g01468/pub/bidirule.transitions", laid_loop_example_pub_g01468_pub_bidirule_transitions)], narrowed := true }
def FnValidUptoSaid : Prop := fnValidUptoRow.holds Tryd.pinned (OpenSpec.upto fnValidSpec)

/-- 'laws.FnValidBegin', WHERE WHAT IT READS IS OF BULK AT MOST 1048576: true; the input reads as it did. -/
def fnValidBeginUptoRow : OpenClaim := { program := "ytoceibpgapjhcaadoor", sum := "13295e1cbc421a863ec471525c83d70ccecf27b078fb69549aed61a5f9fe2e58", func := "loop.example/pub-g01468/laws.FnValidBegin", spec := "fnValidBegin", named := ["loop.example/pub-g01468/pub/bidirule.transitions"], apart := false, laid := [("loop.example/pub-g01468/pub/bidirule.transitions", laid_loop_example_pub_g01468_pub_bidirule_transitions)], narrowed := true }
def FnValidBeginUptoSaid : Prop := fnValidBeginUptoRow.holds Tryd.pinned (OpenSpec.upto fnValidBeginSpec)

/-- 'laws.FnValidEnd', WHERE WHAT IT READS IS OF BULK AT MOST 1048576: true; the input reads as it did. -/
def fnValidEndUptoRow : OpenClaim := { program := "ytoceibpgapjhcaadoor", sum := "13295e1cbc421a863ec471525c83d70ccecf27b078fb69549aed61a5f9fe2e58", func := "loop.example/pub-g01468/laws.FnValidEnd", spec := "fnValidEnd", named := ["loop.example/pub-g01468/pub/bidirule.transitions"], apart := false, laid := [("loop.example/pub-g01468/pub/bidirule.transitions", laid_loop_example_pub_g01468_pub_bidirule_transitions)], narrowed := true }
def FnValidEndUptoSaid : Prop := fnValidEndUptoRow.holds Tryd.pinned (OpenSpec.upto fnValidEndSpec)

/-- 'laws.FnValidJoined', WHERE WHAT IT READS IS OF BULK AT MOST 1048576: true; the input reads as it did. -/
def fnValidJoinedUptoRow : OpenClaim := { program := "ytoceibpgapjhcaadoor", sum := "13295e1cbc421a863ec471525c83d70ccecf27b078fb69549aed61a5f9fe2e58", func := "loop.example/pub-g01468/laws.FnValidJoined", spec := "fnValidJoined", named := ["loop.example/pub-g01468/pub/bidirule.transitions"], apart := false, laid := [("loop.example/pub-g01468/pub/bidirule.transitions", laid_loop_example_pub_g01468_pub_bidirule_transitions)], narrowed := true }
def FnValidJoinedUptoSaid : Prop := fnValidJoinedUptoRow.holds Tryd.pinned (OpenSpec.upto fnValidJoinedSpec)

/-- 'laws.FnValidMarks', WHERE WHAT IT READS IS OF BULK AT MOST 1048576: true; the input reads as it did. -/
def fnValidMarksUptoRow : OpenClaim := { program := "ytoceibpgapjhcaadoor", sum := "13295e1cbc421a863ec471525c83d70ccecf27b078fb69549aed61a5f9fe2e58", func := "loop.example/pub-g01468/laws.FnValidMarks", spec := "fnValidMarks", named := ["loop.example/pub-g01468/pub/bidirule.transitions"], apart := false, laid := [("loop.example/pub-g01468/pub/bidirule.transitions", laid_loop_example_pub_g01468_pub_bidirule_transitions)], narrowed := true }
def FnValidMarksUptoSaid : Prop := fnValidMarksUptoRow.holds Tryd.pinned (OpenSpec.upto fnValidMarksSpec)

/-- 'laws.FnValidNumbers', WHERE WHAT IT READS IS OF BULK AT MOST 1048576: true; the input reads as it did. -/
def fnValidNumbersUptoRow : OpenClaim := { program := "ytoceibpgapjhcaadoor", sum := "13295e1cbc421a863ec471525c83d70ccecf27b078fb69549aed61a5f9fe2e58", func := "loop.example/pub-g01468/laws.FnValidNumbers", spec := "fnValidNumbers", named := ["loop.example/pub-g01468/pub/bidirule.transitions"], apart := false, laid := [("loop.example/pub-g01468/pub/bidirule.transitions", laid_loop_example_pub_g01468_pub_bidirule_transitions)], narrowed := true }
def FnValidNumbersUptoSaid : Prop := fnValidNumbersUptoRow.holds Tryd.pinned (OpenSpec.upto fnValidNumbersSpec)

/-- 'laws.FnSpanPieces', WHERE WHAT IT READS IS OF BULK AT MOST 1048576: true; the input reads as it did. -/
def fnSpanPiecesUptoRow : OpenClaim := { program := "ytoceibpgapjhcaadoor", sum := "13295e1cbc421a863ec471525c83d70ccecf27b078fb69549aed61a5f9fe2e58", func := "loop.example/pub-g01468/laws.FnSpanPieces", spec := "fnSpanPieces", inPlace := ["internal/reflectlite.TypeOf"], unfollowed := true, recurses := true, named := ["loop.example/pub-g01468/pub/bidirule.ErrInvalid", "loop.example/pub-g01468/pub/bidirule.ErrShortSrc", "loop.example/pub-g01468/pub/bidirule.transitions", "loop.example/pub-g01468/pub/bidirule.ErrShortDst"], ifaces := true, apart := false, laid := [("loop.example/pub-g01468/pub/bidirule.ErrInvalid", laid_loop_example_pub_g01468_pub_bidirule_ErrInvalid), ("loop.example/pub-g01468/pub/bidirule.transitions", laid_loop_example_pub_g01468_pub_bidirule_transitions), ("loop.example/pub-g01468/pub/bidirule.ErrShortDst", laid_loop_example_pub_g01468_pub_bidirule_ErrShortDst), ("loop.example/pub-g01468/pub/bidirule.ErrShortSrc", laid_loop_example_pub_g01468_pub_bidirule_ErrShortSrc)], narrowed := true }
def FnSpanPiecesUptoSaid : Prop := fnSpanPiecesUptoRow.holds Tryd.pinned (OpenSpec.upto fnSpanPiecesSpec)

/-- 'laws.FnTransformed', WHERE WHAT IT READS IS OF BULK AT MOST 1048576: true; the input reads as it did. -/
def fnTransformedUptoRow : OpenClaim := { program := "ytoceibpgapjhcaadoor", sum := "13295e1cbc421a863ec471525c83d70ccecf27b078fb69549aed61a5f9fe2e58", func := "loop.example/pub-g01468/laws.FnTransformed", spec := "fnTransformed", inPlace := ["internal/reflectlite.TypeOf"], unfollowed := true, recurses := true, named := ["loop.example/pub-g01468/pub/bidirule.ErrShortDst", "loop.example/pub-g01468/pub/bidirule.ErrShortSrc", "loop.example/pub-g01468/pub/bidirule.ErrInvalid", "loop.example/pub-g01468/pub/bidirule.transitions"], ifaces := true, apart := false, laid := [("loop.example/pub-g01468/pub/bidirule.ErrInvalid", laid_loop_example_pub_g01468_pub_bidirule_ErrInvalid), ("loop.example/pub-g01468/pub/bidirule.transitions", laid_loop_example_pub_g01468_pub_bidirule_transitions), ("loop.example/pub-g01468/pub/bidirule.ErrShortDst", laid_loop_example_pub_g01468_pub_bidirule_ErrShortDst), ("loop.example/pub-g01468/pub/bidirule.ErrShortSrc", laid_loop_example_pub_g01468_pub_bidirule_ErrShortSrc)], narrowed := true }
def FnTransformedUptoSaid : Prop := fnTransformedUptoRow.holds Tryd.pinned (OpenSpec.upto fnTransformedSpec)

/-- 'laws.FnTransformedShort', WHERE WHAT IT READS IS OF BULK AT MOST 1048576: true; the input reads as it did. -/
def fnTransformedShortUptoRow : OpenClaim := { program := "ytoceibpgapjhcaadoor", sum := "13295e1cbc421a863ec471525c83d70ccecf27b078fb69549aed61a5f9fe2e58", func := "loop.example/pub-g01468/laws.FnTransformedShort", spec := "fnTransformedShort", inPlace := ["internal/reflectlite.TypeOf"], unfollowed := true, recurses := true, named := ["loop.example/pub-g01468/pub/bidirule.ErrShortDst", "loop.example/pub-g01468/pub/bidirule.ErrShortSrc", "loop.example/pub-g01468/pub/bidirule.ErrInvalid", "loop.example/pub-g01468/pub/bidirule.transitions"], ifaces := true, apart := false, laid := [("loop.example/pub-g01468/pub/bidirule.ErrInvalid", laid_loop_example_pub_g01468_pub_bidirule_ErrInvalid), ("loop.example/pub-g01468/pub/bidirule.transitions", laid_loop_example_pub_g01468_pub_bidirule_transitions), ("loop.example/pub-g01468/pub/bidirule.ErrShortDst", laid_loop_example_pub_g01468_pub_bidirule_ErrShortDst), ("loop.example/pub-g01468/pub/bidirule.ErrShortSrc", laid_loop_example_pub_g01468_pub_bidirule_ErrShortSrc)], narrowed := true }
def FnTransformedShortUptoSaid : Prop := fnTransformedShortUptoRow.holds Tryd.pinned (OpenSpec.upto fnTransformedShortSpec)

end Rows
end Go.Proofs.YtoceibpgapjhcaaDoor
