/-
  DERIVED. GIVEN WITH THE SEED: THE CARDS: each row of Qxb6605582aDoorRows.lean that lists a variable, with what it lists TIED to the program's text (the seventh form; the later family's looks); each row that meets fmt, with fmt's text TOLD by the authors' own Lean function (tested against real Go, not proved from fmt's source: count such statements apart). THE CARD IS WHAT COUNTS. Prove the row's statement (the work); the ties are given (Qxb6605582aDoorTie.lean); close each card by the builder's one call (the guide's Derived/Test/ToyasCard.lean, 'card_holds'). Laid BY PROGRAM, IN A SANDBOX (cutbox-door.mjs). By AI agents, Wed Nov 11 2026. No macro, syntax, notation, axiom, sorry.
-/
import Derived.Test.Qxb6605582aDoorRows
import GoSem.ClaimSeven
namespace Go.Proofs.Qxb6605582aDoor
namespace Rows

/-- THE TIED CARD OF 'zzlaws_root_b1.FnPlaceStringReadsBack'. -/
def fnPlaceStringReadsBackCard : Claim7 := { stood := { row := fnPlaceStringReadsBackRow, standIns := [], harness := (true, "f3e9ef73bc83e28106f1a052599880bf9e860aabc4ce305488f4b2c8a94bcbe6"), looks := false }, kinds := [], alts := [], laidByText := true, laidKinds := [.data, .data, .data], laidTests := true, laidLooks := .later }
def FnPlaceStringReadsBackCardSaid : Prop := Claim7.holds Tryd.pinned (.plain (OpenSpec.ofChange fnPlaceStringReadsBackSpec)) fnPlaceStringReadsBackCard
end Rows
end Go.Proofs.Qxb6605582aDoor
