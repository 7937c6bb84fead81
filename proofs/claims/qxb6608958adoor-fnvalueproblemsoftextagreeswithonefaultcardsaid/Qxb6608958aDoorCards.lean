/-
  DERIVED. GIVEN WITH THE SEED: THE CARDS: each row of Qxb6608958aDoorRows.lean that lists a variable, with what it lists TIED to the program's text (the seventh form; the later family's looks); each row that meets fmt, with fmt's text TOLD by the authors' own Lean function (tested against real Go, not proved from fmt's source: count such statements apart). THE CARD IS WHAT COUNTS. Prove the row's statement (the work); the ties are given (Qxb6608958aDoorTie.lean); close each card by the builder's one call (the guide's Derived/Test/ToyasCard.lean, 'card_holds'). Laid BY PROGRAM, IN A SANDBOX (cutbox-door.mjs). By AI agents, Wed Nov 11 2026. No macro, syntax, notation, axiom, sorry.
-/
import Derived.Test.Qxb6608958aDoorRows
import GoSem.ClaimSeven
namespace Go.Proofs.Qxb6608958aDoor
namespace Rows

/-- THE TIED CARD OF 'zzlaws_internal_conditions_b1.FnValueProblemsOfTextAgreesWithOneFault'. -/
def fnValueProblemsOfTextAgreesWithOneFaultCard : Claim7 := { stood := { row := fnValueProblemsOfTextAgreesWithOneFaultRow, standIns := [], harness := (true, "0da290de26c91e4cc9f13ee897441e2e4d22bdb7ae1afc442b7e2d9908362f9d"), looks := true }, kinds := [], alts := [], laidByText := true, laidKinds := [.handle], laidTests := true, laidLooks := .later }
def FnValueProblemsOfTextAgreesWithOneFaultCardSaid : Prop := Claim7.holds Tryd.pinned (.plain (OpenSpec.ofChange fnValueProblemsOfTextAgreesWithOneFaultSpec)) fnValueProblemsOfTextAgreesWithOneFaultCard
end Rows
end Go.Proofs.Qxb6608958aDoor
