/-
  DERIVED. GIVEN WITH THE SEED: THE CARDS: each row of Qxb6615664aDoorRows.lean that lists a variable, with what it lists TIED to the program's text (the seventh form; the later family's looks); each row that meets fmt, with fmt's text TOLD by the authors' own Lean function (tested against real Go, not proved from fmt's source: count such statements apart). THE CARD IS WHAT COUNTS. Prove the row's statement (the work); the ties are given (Qxb6615664aDoorTie.lean); close each card by the builder's one call (the guide's Derived/Test/ToyasCard.lean, 'card_holds'). Laid BY PROGRAM, IN A SANDBOX (cutbox-door.mjs). By AI agents, Wed Nov 11 2026. No macro, syntax, notation, axiom, sorry.
-/
import Derived.Test.Qxb6615664aDoorRows
import GoSem.ClaimSeven
namespace Go.Proofs.Qxb6615664aDoor
namespace Rows

/-- THE TIED CARD OF 'zzlaws_systemd_b1.FnAlignLandsOnLeastMultipleAndStays'. -/
def fnAlignLandsOnLeastMultipleAndStaysCard : Claim7 := { stood := { row := fnAlignLandsOnLeastMultipleAndStaysRow, standIns := [], harness := (true, "52d2c764142c348c5f9dab9aa5734471e61020e946441d8c6c372a58c7ce9d53"), looks := false }, kinds := [], alts := [], laidByText := true, laidKinds := [.sentinel], laidTests := true, laidLooks := .later }
def FnAlignLandsOnLeastMultipleAndStaysCardSaid : Prop := Claim7.holds Tryd.pinned (.plain (OpenSpec.ofChange fnAlignLandsOnLeastMultipleAndStaysSpec)) fnAlignLandsOnLeastMultipleAndStaysCard
end Rows
end Go.Proofs.Qxb6615664aDoor
