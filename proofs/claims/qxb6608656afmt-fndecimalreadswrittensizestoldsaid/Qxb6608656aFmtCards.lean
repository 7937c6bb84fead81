/-
  DERIVED. GIVEN WITH THE SEED: THE CARDS: each row of Qxb6608656aFmtRows.lean that lists a variable, with what it lists TIED to the program's text (the seventh form; the later family's looks); each row that meets fmt, with fmt's text TOLD by the authors' own Lean function (tested against real Go, not proved from fmt's source: count such statements apart). THE CARD IS WHAT COUNTS. Prove the row's statement (the work); the ties are given (Qxb6608656aFmtTie.lean); close each card by the builder's one call (the guide's Derived/Test/ToyasCard.lean, 'card_holds'). Laid BY PROGRAM, IN A SANDBOX (cutbox-door.mjs). By AI agents, Wed Nov 11 2026. No macro, syntax, notation, axiom, sorry.
-/
import Derived.Test.Qxb6608656aFmtRows
import GoSem.ClaimSeven
namespace Go.Proofs.Qxb6608656aFmt
namespace Rows

/-- THE TOLD AND TIED CARD OF 'zzlaws_object_b1.FnDecimalReadsWrittenSizes'. -/
def fnDecimalReadsWrittenSizesCard : Claim7 := { stood := { row := fnDecimalReadsWrittenSizesRow, standIns := [], harness := (true, "f8fcfa677ade30cdae134b6d9a03e9fd7df80adb14d00d76670a62e4970e769d"), looks := true }, told := true, laidByText := true, laidKinds := [.data, .data, .data, .sentinel, .sentinel, .data], laidTests := true, laidLooks := .later, goes := false }
def FnDecimalReadsWrittenSizesToldSaid : Prop := Claim7.holds Tryf.pinned (.plain (OpenSpec.ofChange fnDecimalReadsWrittenSizesSpec)) fnDecimalReadsWrittenSizesCard
/-- ITS FALSE NEIGHBOUR. Refute it at one input. -/
def FnDecimalReadsWrittenSizesToldWrongFalsely : Prop := Claim7.holds Tryf.pinned (.plain (OpenSpec.ofChange fnDecimalReadsWrittenSizesWrong)) fnDecimalReadsWrittenSizesCard

/-- THE TOLD CARD OF 'zzlaws_object_b1.FnCheckRefNameJoin'. -/
def fnCheckRefNameJoinCard : Claim7 := { stood := { row := fnCheckRefNameJoinRow, standIns := [], harness := (true, "f8fcfa677ade30cdae134b6d9a03e9fd7df80adb14d00d76670a62e4970e769d"), looks := true }, told := true, goes := false }
def FnCheckRefNameJoinToldSaid : Prop := Claim7.holds Tryf.pinned (.plain (OpenSpec.ofChange fnCheckRefNameJoinSpec)) fnCheckRefNameJoinCard
/-- ITS FALSE NEIGHBOUR. Refute it at one input. -/
def FnCheckRefNameJoinToldWrongFalsely : Prop := Claim7.holds Tryf.pinned (.plain (OpenSpec.ofChange fnCheckRefNameJoinWrong)) fnCheckRefNameJoinCard

/-- THE TOLD CARD OF 'zzlaws_object_b1.FnCheckRefNameInsert'. -/
def fnCheckRefNameInsertCard : Claim7 := { stood := { row := fnCheckRefNameInsertRow, standIns := [], harness := (true, "f8fcfa677ade30cdae134b6d9a03e9fd7df80adb14d00d76670a62e4970e769d"), looks := true }, told := true, goes := false }
def FnCheckRefNameInsertToldSaid : Prop := Claim7.holds Tryf.pinned (.plain (OpenSpec.ofChange fnCheckRefNameInsertSpec)) fnCheckRefNameInsertCard
/-- ITS FALSE NEIGHBOUR. Refute it at one input. -/
def FnCheckRefNameInsertToldWrongFalsely : Prop := Claim7.holds Tryf.pinned (.plain (OpenSpec.ofChange fnCheckRefNameInsertWrong)) fnCheckRefNameInsertCard

/-- THE TOLD AND TIED CARD OF 'zzlaws_object_b1.FnWriteScriptAgainstSum'. -/
def fnWriteScriptAgainstSumCard : Claim7 := { stood := { row := fnWriteScriptAgainstSumRow, standIns := [], harness := (true, "f8fcfa677ade30cdae134b6d9a03e9fd7df80adb14d00d76670a62e4970e769d"), looks := true }, told := true, laidByText := true, laidKinds := [.data, .data, .data, .data], laidTests := true, laidLooks := .later, goes := false }
def FnWriteScriptAgainstSumToldSaid : Prop := Claim7.holds Tryf.pinned (.plain (OpenSpec.ofChange fnWriteScriptAgainstSumSpec)) fnWriteScriptAgainstSumCard
/-- ITS FALSE NEIGHBOUR. Refute it at one input. -/
def FnWriteScriptAgainstSumToldWrongFalsely : Prop := Claim7.holds Tryf.pinned (.plain (OpenSpec.ofChange fnWriteScriptAgainstSumWrong)) fnWriteScriptAgainstSumCard

/-- THE TOLD AND TIED CARD OF 'zzlaws_object_b1.FnWriteSplitAnywhere'. -/
def fnWriteSplitAnywhereCard : Claim7 := { stood := { row := fnWriteSplitAnywhereRow, standIns := [], harness := (true, "f8fcfa677ade30cdae134b6d9a03e9fd7df80adb14d00d76670a62e4970e769d"), looks := true }, told := true, laidByText := true, laidKinds := [.data, .data, .data, .data], laidTests := true, laidLooks := .later, goes := false }
def FnWriteSplitAnywhereToldSaid : Prop := Claim7.holds Tryf.pinned (.plain (OpenSpec.ofChange fnWriteSplitAnywhereSpec)) fnWriteSplitAnywhereCard
/-- ITS FALSE NEIGHBOUR. Refute it at one input. -/
def FnWriteSplitAnywhereToldWrongFalsely : Prop := Claim7.holds Tryf.pinned (.plain (OpenSpec.ofChange fnWriteSplitAnywhereWrong)) fnWriteSplitAnywhereCard
end Rows
end Go.Proofs.Qxb6608656aFmt
