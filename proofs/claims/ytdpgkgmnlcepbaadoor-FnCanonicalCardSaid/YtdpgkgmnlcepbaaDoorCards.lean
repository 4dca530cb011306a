/-
  DERIVED. GIVEN WITH THE SEED: THE CARDS: each row of YtdpgkgmnlcepbaaDoorRows.lean that lists a variable, with what it lists TIED to the program's text (the seventh form; the later family's looks); each row that meets fmt, with fmt's text TOLD by the authors' own Lean function (tested against real Go, not proved from fmt's source: count such statements apart). THE CARD IS WHAT COUNTS. Prove the row's statement (the work); the ties are given (YtdpgkgmnlcepbaaDoorTie.lean); close each card by the builder's one call (the guide's Derived/Test/ToyasCard.lean, 'card_holds'). Laid BY PROGRAM, IN A SANDBOX (cutbox-door.mjs). By AI agents, Wed Nov 11 2026. No macro, syntax, notation, axiom, sorry.
-/
import Derived.Test.YtdpgkgmnlcepbaaDoorRows
import GoSem.ClaimSeven
namespace Go.Proofs.YtdpgkgmnlcepbaaDoor
namespace Rows

/-- THE TIED CARD OF 'laws.FnCanonical'. -/
def fnCanonicalCard : Claim7 := { stood := { row := fnCanonicalRow, standIns := [], harness := (true, "5cb0c23acef9a4607aa86821e3b147eae817f28030db77698e88ba967d11e5a0"), looks := false }, kinds := [], alts := [], laidByText := true, laidKinds := [.mapped], laidTests := true, laidLooks := .later }
def FnCanonicalCardSaid : Prop := Claim7.holds Tryd.pinned (.plain (OpenSpec.ofChange fnCanonicalSpec)) fnCanonicalCard

/-- THE SECOND FORM's CARD OF 'laws.FnCanonical'. -/
def fnCanonicalUptoCard : Claim7 := { stood := { row := fnCanonicalUptoRow, standIns := [], harness := (true, "5cb0c23acef9a4607aa86821e3b147eae817f28030db77698e88ba967d11e5a0"), looks := false }, kinds := [], alts := [], laidByText := true, laidKinds := [.mapped], laidTests := true, laidLooks := .later }
def FnCanonicalUptoCardSaid : Prop := Claim7.holds Tryd.pinned (.plain (OpenSpec.upto fnCanonicalSpec)) fnCanonicalUptoCard
end Rows
end Go.Proofs.YtdpgkgmnlcepbaaDoor
