/-
  NARROWER THAN 'FOR EVERY INPUT', by the rows' own cells (each row's printed sentence says how): FnDecimalReadsWrittenSizes: laid · FnWriteScriptAgainstSum: laid · FnWriteSplitAnywhere: laid.
  DERIVED. THE GIVEN ROWS OF THIS SEAT. 5 by the template 'for every input the law returns true; each argument reads behind the call as it read before'; 0 by the template 'total and deterministic' (their statements: Qxb6608656aFmtTotals.lean).
  GIVEN WITH THE SEED: the statements are not yours to turn. If you find one false, say at which input.
  Laid BY PROGRAM, IN A SANDBOX (cutbox-rows.mjs): the forced cells as the released guide's own fill.sh prints them over the translation cf758254d6e98744… (all of the seat's roots in one cut). By AI agents, Wed Nov 11 2026. No macro, syntax, notation, axiom, sorry.
-/
import Derived.Test.Qxb6608656aFmtChecked
import GoSem.Claim
import GoSem.ClaimJoined
import GoSem.ClaimMapViews
import Derived.JoinedTies
import Derived.KernelRfl
namespace Go.Proofs.Qxb6608656aFmt
/- THE CELL 'sum', in the pinned program and in every row, IS THE sha256 OF THE DUMP (.gsa) THAT Qxb6608656aFmtProg.lean LOADS. Nothing in Lean hashes anything: it is a label: what it is worth is what the hold of that sum in a sandbox is worth. -/
noncomputable def Tryf.pinned : Pinned := { name := "qxb6608656afmt", sum := "cf758254d6e987447b20d2ce98cb2cee5000dffa39ea9379bf3445819c065ab8", checked := Tryf.checked }
namespace Rows
def none {H : Type} : Left H := { results := [], args := [] }

/- WHAT THE LISTED PACKAGE-LEVEL VARIABLES READ AS WHEN THE CALL BEGINS. Each datum BY PROGRAM (the guide's laid-datum.mjs) off the statement by which the dump's own 'gosem.cut.vars' lays the variable. In a bare row this is a premise. The card (Qxb6608656aFmtCards.lean) ties it to the program's text. -/
def laid_math_bits_deBruijn32tab {H : Type} : DataW H := .agg [.lit (.int .u8 0), .lit (.int .u8 1), .lit (.int .u8 28), .lit (.int .u8 2), .lit (.int .u8 29), .lit (.int .u8 14), .lit (.int .u8 24), .lit (.int .u8 3), .lit (.int .u8 30), .lit (.int .u8 22), .lit (.int .u8 20), .lit (.int .u8 15), .lit (.int .u8 25), .lit (.int .u8 17), .lit (.int .u8 4), .lit (.int .u8 8), .lit (.int .u8 31), .lit (.int .u8 27), .lit (.int .u8 13), .lit (.int .u8 23), .lit (.int .u8 21), .lit (.int .u8 19), .lit (.int .u8 16), .lit (.int .u8 7), .lit (.int .u8 26), .lit (.int .u8 12), .lit (.int .u8 18), .lit (.int .u8 6), .lit (.int .u8 11), .lit (.int .u8 5), .lit (.int .u8 10), .lit (.int .u8 9)]
def laid_math_bits_deBruijn64tab {H : Type} : DataW H := .agg [.lit (.int .u8 0), .lit (.int .u8 1), .lit (.int .u8 56), .lit (.int .u8 2), .lit (.int .u8 57), .lit (.int .u8 49), .lit (.int .u8 28), .lit (.int .u8 3), .lit (.int .u8 61), .lit (.int .u8 58), .lit (.int .u8 42), .lit (.int .u8 50), .lit (.int .u8 38), .lit (.int .u8 29), .lit (.int .u8 17), .lit (.int .u8 4), .lit (.int .u8 62), .lit (.int .u8 47), .lit (.int .u8 59), .lit (.int .u8 36), .lit (.int .u8 45), .lit (.int .u8 43), .lit (.int .u8 51), .lit (.int .u8 22), .lit (.int .u8 53), .lit (.int .u8 39), .lit (.int .u8 33), .lit (.int .u8 30), .lit (.int .u8 24), .lit (.int .u8 18), .lit (.int .u8 12), .lit (.int .u8 5), .lit (.int .u8 63), .lit (.int .u8 55), .lit (.int .u8 48), .lit (.int .u8 27), .lit (.int .u8 60), .lit (.int .u8 41), .lit (.int .u8 37), .lit (.int .u8 16), .lit (.int .u8 46), .lit (.int .u8 35), .lit (.int .u8 44), .lit (.int .u8 21), .lit (.int .u8 52), .lit (.int .u8 32), .lit (.int .u8 23), .lit (.int .u8 11), .lit (.int .u8 54), .lit (.int .u8 26), .lit (.int .u8 40), .lit (.int .u8 15), .lit (.int .u8 34), .lit (.int .u8 20), .lit (.int .u8 31), .lit (.int .u8 10), .lit (.int .u8 25), .lit (.int .u8 14), .lit (.int .u8 19), .lit (.int .u8 9), .lit (.int .u8 13), .lit (.int .u8 8), .lit (.int .u8 7), .lit (.int .u8 6)]
def laid_internal_strconv_uint64pow10 {H : Type} : DataW H := .agg [.lit (.int .u64 1), .lit (.int .u64 10), .lit (.int .u64 100), .lit (.int .u64 1000), .lit (.int .u64 10000), .lit (.int .u64 100000), .lit (.int .u64 1000000), .lit (.int .u64 10000000), .lit (.int .u64 100000000), .lit (.int .u64 1000000000), .lit (.int .u64 10000000000), .lit (.int .u64 100000000000), .lit (.int .u64 1000000000000), .lit (.int .u64 10000000000000), .lit (.int .u64 100000000000000), .lit (.int .u64 1000000000000000), .lit (.int .u64 10000000000000000), .lit (.int .u64 100000000000000000), .lit (.int .u64 1000000000000000000), .lit (.int .u64 10000000000000000000)]
def laid_strconv_ErrRange {H : Type} : DataW H := .iface "*errors.errorString" (.ptr (.agg [.lit (.string [118, 97, 108, 117, 101, 32, 111, 117, 116, 32, 111, 102, 32, 114, 97, 110, 103, 101])]))
def laid_strconv_ErrSyntax {H : Type} : DataW H := .iface "*errors.errorString" (.ptr (.agg [.lit (.string [105, 110, 118, 97, 108, 105, 100, 32, 115, 121, 110, 116, 97, 120])]))
def laid_example_com_packwire_packwire_object_typeNames {H : Type} : DataW H := .agg [.lit (.string []), .lit (.string [99, 111, 109, 109, 105, 116]), .lit (.string [116, 114, 101, 101]), .lit (.string [98, 108, 111, 98]), .lit (.string [116, 97, 103])]

/-- 'zzlaws_object_b1.FnDecimalReadsWrittenSizes': WHATEVER THE INPUT: true; the input reads as it did. -/
def fnDecimalReadsWrittenSizesSpec : ChangeSpec := { name := "fnDecimalReadsWrittenSizes", vars := ["example.com/packwire/packwire/object.typeNames"], fn := fun _ => fun
  | [d1, d2, g1] => { results := [.lit (.bool true)], args := [d1, d2], vars := [g1] }
  | _ => none }
def fnDecimalReadsWrittenSizesRow : OpenClaim := { program := "qxb6608656afmt", sum := "cf758254d6e987447b20d2ce98cb2cee5000dffa39ea9379bf3445819c065ab8", func := "example.com/packwire/packwire/zzlaws_object_b1.FnDecimalReadsWrittenSizes", spec := "fnDecimalReadsWrittenSizes", stops := ["fmt.errorf", "fmt.Sprintf"], inPlace := ["fmt.Sprintf"], named := ["example.com/packwire/packwire/object.typeNames", "internal/strconv.uint64pow10", "math/bits.deBruijn32tab", "math/bits.deBruijn64tab", "strconv.ErrSyntax", "strconv.ErrRange"], apart := false, laid := [("math/bits.deBruijn32tab", laid_math_bits_deBruijn32tab), ("math/bits.deBruijn64tab", laid_math_bits_deBruijn64tab), ("internal/strconv.uint64pow10", laid_internal_strconv_uint64pow10), ("strconv.ErrRange", laid_strconv_ErrRange), ("strconv.ErrSyntax", laid_strconv_ErrSyntax), ("example.com/packwire/packwire/object.typeNames", laid_example_com_packwire_packwire_object_typeNames)] }
/-- NO THEOREM (fmt's text is open here; it may be false): for the released tool's asking of the row's closed facts alone. THE STATEMENT IS 'FnDecimalReadsWrittenSizesToldSaid' (Qxb6608656aFmtCards.lean). -/
def FnDecimalReadsWrittenSizesFormAsk : Prop := fnDecimalReadsWrittenSizesRow.holds Tryf.pinned (OpenSpec.ofChange fnDecimalReadsWrittenSizesSpec)

/-- ITS FALSE NEIGHBOUR: 'it returns false'. Refute it at one input. -/
def fnDecimalReadsWrittenSizesWrong : ChangeSpec := { name := "fnDecimalReadsWrittenSizes", vars := ["example.com/packwire/packwire/object.typeNames"], fn := fun _ => fun
  | [d1, d2, g1] => { results := [.lit (.bool false)], args := [d1, d2], vars := [g1] }
  | _ => none }
def FnDecimalReadsWrittenSizesWrongFormAsk : Prop := fnDecimalReadsWrittenSizesRow.holds Tryf.pinned (OpenSpec.ofChange fnDecimalReadsWrittenSizesWrong)

/-- 'zzlaws_object_b1.FnCheckRefNameJoin': WHATEVER THE INPUT: true; the input reads as it did. -/
def fnCheckRefNameJoinSpec : ChangeSpec := { name := "fnCheckRefNameJoin", fn := fun _ => fun
  | [d1, d2] => { results := [.lit (.bool true)], args := [d1, d2] }
  | _ => none }
def fnCheckRefNameJoinRow : OpenClaim := { program := "qxb6608656afmt", sum := "cf758254d6e987447b20d2ce98cb2cee5000dffa39ea9379bf3445819c065ab8", func := "example.com/packwire/packwire/zzlaws_object_b1.FnCheckRefNameJoin", spec := "fnCheckRefNameJoin", stops := ["fmt.errorf", "fmt.Sprintf"], inPlace := ["internal/bytealg.IndexByteString", "internal/bytealg.IndexString", "fmt.errorf"], unfollowed := true, recurses := true, named := ["internal/bytealg.MaxLen"], apart := false }
/-- NO THEOREM (fmt's text is open here; it may be false): for the released tool's asking of the row's closed facts alone. THE STATEMENT IS 'FnCheckRefNameJoinToldSaid' (Qxb6608656aFmtCards.lean). -/
def FnCheckRefNameJoinFormAsk : Prop := fnCheckRefNameJoinRow.holds Tryf.pinned (OpenSpec.ofChange fnCheckRefNameJoinSpec)

/-- ITS FALSE NEIGHBOUR: 'it returns false'. Refute it at one input. -/
def fnCheckRefNameJoinWrong : ChangeSpec := { name := "fnCheckRefNameJoin", fn := fun _ => fun
  | [d1, d2] => { results := [.lit (.bool false)], args := [d1, d2] }
  | _ => none }
def FnCheckRefNameJoinWrongFormAsk : Prop := fnCheckRefNameJoinRow.holds Tryf.pinned (OpenSpec.ofChange fnCheckRefNameJoinWrong)

/-- 'zzlaws_object_b1.FnCheckRefNameInsert': WHATEVER THE INPUT: true; the input reads as it did. -/
def fnCheckRefNameInsertSpec : ChangeSpec := { name := "fnCheckRefNameInsert", fn := fun _ => fun
  | [d1, d2, d3] => { results := [.lit (.bool true)], args := [d1, d2, d3] }
  | _ => none }
def fnCheckRefNameInsertRow : OpenClaim := { program := "qxb6608656afmt", sum := "cf758254d6e987447b20d2ce98cb2cee5000dffa39ea9379bf3445819c065ab8", func := "example.com/packwire/packwire/zzlaws_object_b1.FnCheckRefNameInsert", spec := "fnCheckRefNameInsert", stops := ["fmt.errorf", "fmt.Sprintf"], inPlace := ["internal/bytealg.IndexByteString", "internal/bytealg.IndexString", "fmt.errorf"], unfollowed := true, recurses := true, named := ["internal/bytealg.MaxLen"], apart := false }
/-- NO THEOREM (fmt's text is open here; it may be false): for the released tool's asking of the row's closed facts alone. THE STATEMENT IS 'FnCheckRefNameInsertToldSaid' (Qxb6608656aFmtCards.lean). -/
def FnCheckRefNameInsertFormAsk : Prop := fnCheckRefNameInsertRow.holds Tryf.pinned (OpenSpec.ofChange fnCheckRefNameInsertSpec)

/-- ITS FALSE NEIGHBOUR: 'it returns false'. Refute it at one input. -/
def fnCheckRefNameInsertWrong : ChangeSpec := { name := "fnCheckRefNameInsert", fn := fun _ => fun
  | [d1, d2, d3] => { results := [.lit (.bool false)], args := [d1, d2, d3] }
  | _ => none }
def FnCheckRefNameInsertWrongFormAsk : Prop := fnCheckRefNameInsertRow.holds Tryf.pinned (OpenSpec.ofChange fnCheckRefNameInsertWrong)

/-- 'zzlaws_object_b1.FnWriteScriptAgainstSum': WHATEVER THE INPUT: true; the input reads as it did. -/
def fnWriteScriptAgainstSumSpec : ChangeSpec := { name := "fnWriteScriptAgainstSum", vars := ["example.com/packwire/packwire/object.typeNames"], fn := fun _ => fun
  | [d1, d2, d3, d4, d5, g1] => { results := [.lit (.bool true)], args := [d1, d2, d3, d4, d5], vars := [g1] }
  | _ => none }
def fnWriteScriptAgainstSumRow : OpenClaim := { program := "qxb6608656afmt", sum := "cf758254d6e987447b20d2ce98cb2cee5000dffa39ea9379bf3445819c065ab8", func := "example.com/packwire/packwire/zzlaws_object_b1.FnWriteScriptAgainstSum", spec := "fnWriteScriptAgainstSum", stops := ["fmt.errorf", "fmt.Sprintf"], inPlace := ["fmt.Sprintf", "fmt.errorf"], unfollowed := true, recurses := true, named := ["example.com/packwire/packwire/object.typeNames", "internal/strconv.uint64pow10", "math/bits.deBruijn32tab", "math/bits.deBruijn64tab"], apart := false, laid := [("math/bits.deBruijn32tab", laid_math_bits_deBruijn32tab), ("math/bits.deBruijn64tab", laid_math_bits_deBruijn64tab), ("internal/strconv.uint64pow10", laid_internal_strconv_uint64pow10), ("example.com/packwire/packwire/object.typeNames", laid_example_com_packwire_packwire_object_typeNames)] }
/-- NO THEOREM (fmt's text is open here; it may be false): for the released tool's asking of the row's closed facts alone. THE STATEMENT IS 'FnWriteScriptAgainstSumToldSaid' (Qxb6608656aFmtCards.lean). -/
def FnWriteScriptAgainstSumFormAsk : Prop := fnWriteScriptAgainstSumRow.holds Tryf.pinned (OpenSpec.ofChange fnWriteScriptAgainstSumSpec)

/-- ITS FALSE NEIGHBOUR: 'it returns false'. Refute it at one input. -/
def fnWriteScriptAgainstSumWrong : ChangeSpec := { name := "fnWriteScriptAgainstSum", vars := ["example.com/packwire/packwire/object.typeNames"], fn := fun _ => fun
  | [d1, d2, d3, d4, d5, g1] => { results := [.lit (.bool false)], args := [d1, d2, d3, d4, d5], vars := [g1] }
  | _ => none }
def FnWriteScriptAgainstSumWrongFormAsk : Prop := fnWriteScriptAgainstSumRow.holds Tryf.pinned (OpenSpec.ofChange fnWriteScriptAgainstSumWrong)

/-- 'zzlaws_object_b1.FnWriteSplitAnywhere': WHATEVER THE INPUT: true; the input reads as it did. -/
def fnWriteSplitAnywhereSpec : ChangeSpec := { name := "fnWriteSplitAnywhere", vars := ["example.com/packwire/packwire/object.typeNames"], fn := fun _ => fun
  | [d1, d2, d3, d4, g1] => { results := [.lit (.bool true)], args := [d1, d2, d3, d4], vars := [g1] }
  | _ => none }
def fnWriteSplitAnywhereRow : OpenClaim := { program := "qxb6608656afmt", sum := "cf758254d6e987447b20d2ce98cb2cee5000dffa39ea9379bf3445819c065ab8", func := "example.com/packwire/packwire/zzlaws_object_b1.FnWriteSplitAnywhere", spec := "fnWriteSplitAnywhere", stops := ["fmt.errorf", "fmt.Sprintf"], inPlace := ["fmt.Sprintf", "fmt.errorf"], unfollowed := true, recurses := true, named := ["example.com/packwire/packwire/object.typeNames", "internal/strconv.uint64pow10", "math/bits.deBruijn32tab", "math/bits.deBruijn64tab"], apart := false, laid := [("math/bits.deBruijn32tab", laid_math_bits_deBruijn32tab), ("math/bits.deBruijn64tab", laid_math_bits_deBruijn64tab), ("internal/strconv.uint64pow10", laid_internal_strconv_uint64pow10), ("example.com/packwire/packwire/object.typeNames", laid_example_com_packwire_packwire_object_typeNames)] }
/-- NO THEOREM (fmt's text is open here; it may be false): for the released tool's asking of the row's closed facts alone. THE STATEMENT IS 'FnWriteSplitAnywhereToldSaid' (Qxb6608656aFmtCards.lean). -/
def FnWriteSplitAnywhereFormAsk : Prop := fnWriteSplitAnywhereRow.holds Tryf.pinned (OpenSpec.ofChange fnWriteSplitAnywhereSpec)

/-- ITS FALSE NEIGHBOUR: 'it returns false'. Refute it at one input. -/
def fnWriteSplitAnywhereWrong : ChangeSpec := { name := "fnWriteSplitAnywhere", vars := ["example.com/packwire/packwire/object.typeNames"], fn := fun _ => fun
  | [d1, d2, d3, d4, g1] => { results := [.lit (.bool false)], args := [d1, d2, d3, d4], vars := [g1] }
  | _ => none }
def FnWriteSplitAnywhereWrongFormAsk : Prop := fnWriteSplitAnywhereRow.holds Tryf.pinned (OpenSpec.ofChange fnWriteSplitAnywhereWrong)

end Rows
end Go.Proofs.Qxb6608656aFmt
