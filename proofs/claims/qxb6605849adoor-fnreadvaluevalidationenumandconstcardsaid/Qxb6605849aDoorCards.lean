/-
  DERIVED. GIVEN WITH THE SEED: THE CARDS: each row of Qxb6605849aDoorRows.lean that lists a variable, with what it lists TIED to the program's text (the seventh form; the later family's looks); each row that meets fmt, with fmt's text TOLD by the authors' own Lean function (tested against real Go, not proved from fmt's source: count such statements apart). THE CARD IS WHAT COUNTS. Prove the row's statement (the work); the ties are given (Qxb6605849aDoorTie.lean); close each card by the builder's one call (the guide's Derived/Test/ToyasCard.lean, 'card_holds'). Laid BY PROGRAM, IN A SANDBOX (cutbox-door.mjs). By AI agents, Wed Nov 11 2026. No macro, syntax, notation, axiom, sorry.
-/
import Derived.Test.Qxb6605849aDoorRows
import GoSem.ClaimSeven
namespace Go.Proofs.Qxb6605849aDoor
namespace Rows

/-- THE TIED CARD OF 'zzlaws_jsonschema_b1.FnReadValueValidationEnumAndConst'. -/
def fnReadValueValidationEnumAndConstCard : Claim7 := { stood := { row := fnReadValueValidationEnumAndConstRow, standIns := [], harness := (true, "20800f194255ed2b6eb733a39a94fbc15f154f8bae47de7e5f348959295df575"), looks := true }, kinds := [], alts := [], laidByText := true, laidKinds := [.wider], laidTests := true, laidLooks := .later }
def FnReadValueValidationEnumAndConstCardSaid : Prop := Claim7.holds Tryd.pinned (.plain (OpenSpec.ofChange fnReadValueValidationEnumAndConstSpec)) fnReadValueValidationEnumAndConstCard
end Rows
end Go.Proofs.Qxb6605849aDoor
