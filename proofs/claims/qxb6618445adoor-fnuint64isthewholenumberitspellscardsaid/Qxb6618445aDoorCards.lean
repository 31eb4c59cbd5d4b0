/-
  DERIVED. GIVEN WITH THE SEED: THE CARDS: each row of Qxb6618445aDoorRows.lean that lists a variable, with what it lists TIED to the program's text (the seventh form; the later family's looks); each row that meets fmt, with fmt's text TOLD by the authors' own Lean function (tested against real Go, not proved from fmt's source: count such statements apart). THE CARD IS WHAT COUNTS. Prove the row's statement (the work); the ties are given (Qxb6618445aDoorTie.lean); close each card by the builder's one call (the guide's Derived/Test/ToyasCard.lean, 'card_holds'). Laid BY PROGRAM, IN A SANDBOX (cutbox-door.mjs). By AI agents, Wed Nov 11 2026. No macro, syntax, notation, axiom, sorry.
-/
import Derived.Test.Qxb6618445aDoorRows
import GoSem.ClaimSeven
namespace Go.Proofs.Qxb6618445aDoor
namespace Rows

/-- THE TIED CARD OF 'zzlaws_internal_decimal_b1.FnUint64IsTheWholeNumberItSpells'. -/
def fnUint64IsTheWholeNumberItSpellsCard : Claim7 := { stood := { row := fnUint64IsTheWholeNumberItSpellsRow, standIns := [], harness := (true, "b58d3da4bb5589631090929797cca99d6267b4f4be317dca239b9a7c29354289"), looks := true }, kinds := [], alts := [], laidByText := true, laidKinds := [.data, .data, .data, .sentinel, .sentinel], laidTests := true, laidLooks := .later }
def FnUint64IsTheWholeNumberItSpellsCardSaid : Prop := Claim7.holds Tryd.pinned (.plain (OpenSpec.ofChange fnUint64IsTheWholeNumberItSpellsSpec)) fnUint64IsTheWholeNumberItSpellsCard
end Rows
end Go.Proofs.Qxb6618445aDoor
