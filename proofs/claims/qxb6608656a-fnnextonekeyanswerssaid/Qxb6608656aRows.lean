/-
  No cell of these rows narrows 'for every input' (looked for: loops, veiled, ifaces, maps, wideKeys, modest, calm, conditions, laid).
  DERIVED. THE GIVEN ROWS OF THIS SEAT. 2 by the template 'for every input the law returns true; each argument reads behind the call as it read before'; 0 by the template 'total and deterministic' (their statements: Qxb6608656aTotals.lean).
  GIVEN WITH THE SEED: the statements are not yours to turn. If you find one false, say at which input.
  Laid BY PROGRAM, IN A SANDBOX (cutbox-rows.mjs): the forced cells as the released guide's own fill.sh prints them over the translation ae51acbbd6e4747f… (all of the seat's roots in one cut). By AI agents, Wed Nov 11 2026. No macro, syntax, notation, axiom, sorry.
-/
import Derived.Test.Qxb6608656aChecked
import GoSem.Claim
import GoSem.ClaimJoined
import GoSem.ClaimMapViews
import Derived.JoinedTies
import Derived.KernelRfl
namespace Go.Proofs.Qxb6608656a
/- THE CELL 'sum', in the pinned program and in every row, IS THE sha256 OF THE DUMP (.gsa) THAT Qxb6608656aProg.lean LOADS. Nothing in Lean hashes anything: it is a label: what it is worth is what the hold of that sum in a sandbox is worth. -/
noncomputable def Try.pinned : Pinned := { name := "qxb6608656a", sum := "ae51acbbd6e4747f653df274dd45de15123dd4eb3568a36e4368941537d8d0b0", checked := Try.checked }
namespace Rows
def none {H : Type} : Left H := { results := [], args := [] }

/-- 'zzlaws_object_b1.FnNextSuffixWalk': WHATEVER THE INPUT: true; the input reads as it did. -/
def fnNextSuffixWalkSpec : ChangeSpec := { name := "fnNextSuffixWalk", fn := fun _ => fun
  | [d1, d2, d3, d4, d5] => { results := [.lit (.bool true)], args := [d1, d2, d3, d4, d5] }
  | _ => none }
def fnNextSuffixWalkRow : OpenClaim := { program := "qxb6608656a", sum := "ae51acbbd6e4747f653df274dd45de15123dd4eb3568a36e4368941537d8d0b0", func := "example.com/packwire/packwire/zzlaws_object_b1.FnNextSuffixWalk", spec := "fnNextSuffixWalk", apart := false }
def FnNextSuffixWalkSaid : Prop := fnNextSuffixWalkRow.holds Try.pinned (OpenSpec.ofChange fnNextSuffixWalkSpec)

/-- ITS FALSE NEIGHBOUR: 'it returns false'. Refute it at one input. -/
def fnNextSuffixWalkWrong : ChangeSpec := { name := "fnNextSuffixWalk", fn := fun _ => fun
  | [d1, d2, d3, d4, d5] => { results := [.lit (.bool false)], args := [d1, d2, d3, d4, d5] }
  | _ => none }
def FnNextSuffixWalkWrongFalsely : Prop := fnNextSuffixWalkRow.holds Try.pinned (OpenSpec.ofChange fnNextSuffixWalkWrong)

/-- 'zzlaws_object_b1.FnNextOneKeyAnswers': WHATEVER THE INPUT: true; the input reads as it did. -/
def fnNextOneKeyAnswersSpec : ChangeSpec := { name := "fnNextOneKeyAnswers", fn := fun _ => fun
  | [d1, d2, d3, d4, d5, d6, d7] => { results := [.lit (.bool true)], args := [d1, d2, d3, d4, d5, d6, d7] }
  | _ => none }
def fnNextOneKeyAnswersRow : OpenClaim := { program := "qxb6608656a", sum := "ae51acbbd6e4747f653df274dd45de15123dd4eb3568a36e4368941537d8d0b0", func := "example.com/packwire/packwire/zzlaws_object_b1.FnNextOneKeyAnswers", spec := "fnNextOneKeyAnswers", apart := false }
def FnNextOneKeyAnswersSaid : Prop := fnNextOneKeyAnswersRow.holds Try.pinned (OpenSpec.ofChange fnNextOneKeyAnswersSpec)

/-- ITS FALSE NEIGHBOUR: 'it returns false'. Refute it at one input. -/
def fnNextOneKeyAnswersWrong : ChangeSpec := { name := "fnNextOneKeyAnswers", fn := fun _ => fun
  | [d1, d2, d3, d4, d5, d6, d7] => { results := [.lit (.bool false)], args := [d1, d2, d3, d4, d5, d6, d7] }
  | _ => none }
def FnNextOneKeyAnswersWrongFalsely : Prop := fnNextOneKeyAnswersRow.holds Try.pinned (OpenSpec.ofChange fnNextOneKeyAnswersWrong)

end Rows
end Go.Proofs.Qxb6608656a
