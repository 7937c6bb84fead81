/-
  DERIVED. GIVEN WITH THE SEED: THE CARDS: each row of Qxb6608656aDoorRows.lean that lists a variable, with what it lists TIED to the program's text (the seventh form; the later family's looks); each row that meets fmt, with fmt's text TOLD by the authors' own Lean function (tested against real Go, not proved from fmt's source: count such statements apart). THE CARD IS WHAT COUNTS. Prove the row's statement (the work); the ties are given (Qxb6608656aDoorTie.lean); close each card by the builder's one call (the guide's Derived/Test/ToyasCard.lean, 'card_holds'). Laid BY PROGRAM, IN A SANDBOX (cutbox-door.mjs). By AI agents, Wed Nov 11 2026. No macro, syntax, notation, axiom, sorry.
-/
import Derived.Test.Qxb6608656aDoorRows
import GoSem.ClaimSeven
namespace Go.Proofs.Qxb6608656aDoor
namespace Rows

/-- THE TIED CARD OF 'zzlaws_object_b1.FnDecimalPrefixClosed'. -/
def fnDecimalPrefixClosedCard : Claim7 := { stood := { row := fnDecimalPrefixClosedRow, standIns := [], harness := (true, "4329e89461beb72fabbc2936660e35d6c54e229da845850477c8a9079474c89d"), looks := true }, kinds := [], alts := [], laidByText := true, laidKinds := [.data, .data, .data, .sentinel, .sentinel], laidTests := true, laidLooks := .later }
def FnDecimalPrefixClosedCardSaid : Prop := Claim7.holds Tryd.pinned (.plain (OpenSpec.ofChange fnDecimalPrefixClosedSpec)) fnDecimalPrefixClosedCard
end Rows
end Go.Proofs.Qxb6608656aDoor
