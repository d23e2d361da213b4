/-
  DERIVED. GIVEN WITH THE SEED: THE CARDS: each row of Qxb6630891aDoorRows.lean that lists a variable, with what it lists TIED to the program's text (the seventh form; the later family's looks); each row that meets fmt, with fmt's text TOLD by the authors' own Lean function (tested against real Go, not proved from fmt's source: count such statements apart). THE CARD IS WHAT COUNTS. Prove the row's statement (the work); the ties are given (Qxb6630891aDoorTie.lean); close each card by the builder's one call (the guide's Derived/Test/ToyasCard.lean, 'card_holds'). Laid BY PROGRAM, IN A SANDBOX (cutbox-door.mjs). By AI agents, Wed Nov 11 2026. No macro, syntax, notation, axiom, sorry.
-/
import Derived.Test.Qxb6630891aDoorRows
import GoSem.ClaimSeven
namespace Go.Proofs.Qxb6630891aDoor
namespace Rows

/-- THE TIED CARD OF 'zzlaws_pkg_patch_b1.FnExpiryStringReadsBack'. -/
def fnExpiryStringReadsBackCard : Claim7 := { stood := { row := fnExpiryStringReadsBackRow, standIns := [], harness := (true, "ebb05dc8301990f34961648a9e11741422a5de852b9ad07a635dfccae1859360"), looks := false }, kinds := [], alts := [], laidByText := true, laidKinds := [.data, .data, .data], laidTests := true, laidLooks := .later }
def FnExpiryStringReadsBackCardSaid : Prop := Claim7.holds Tryd.pinned (.plain (OpenSpec.ofChange fnExpiryStringReadsBackSpec)) fnExpiryStringReadsBackCard

/-- THE TIED CARD OF 'zzlaws_pkg_patch_b1.FnExpiryStringTellsApart'. -/
def fnExpiryStringTellsApartCard : Claim7 := { stood := { row := fnExpiryStringTellsApartRow, standIns := [], harness := (true, "ebb05dc8301990f34961648a9e11741422a5de852b9ad07a635dfccae1859360"), looks := false }, kinds := [], alts := [], laidByText := true, laidKinds := [.data, .data, .data], laidTests := true, laidLooks := .later }
def FnExpiryStringTellsApartCardSaid : Prop := Claim7.holds Tryd.pinned (.plain (OpenSpec.ofChange fnExpiryStringTellsApartSpec)) fnExpiryStringTellsApartCard
end Rows
end Go.Proofs.Qxb6630891aDoor
