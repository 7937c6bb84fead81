/-
  No cell of these rows narrows 'for every input' (looked for: loops, veiled, ifaces, maps, wideKeys, modest, calm, conditions, laid).
  DERIVED. THE GIVEN ROWS OF THIS SEAT. 3 by the template 'for every input the law returns true; each argument reads behind the call as it read before'; 0 by the template 'total and deterministic' (their statements: Qxb6615895aTotals.lean).
  GIVEN WITH THE SEED: the statements are not yours to turn. If you find one false, say at which input.
  Laid BY PROGRAM, IN A SANDBOX (cutbox-rows.mjs): the forced cells as the released guide's own fill.sh prints them over the translation 9c0dfafb512a73cc… (all of the seat's roots in one cut). By AI agents, Wed Nov 11 2026. No macro, syntax, notation, axiom, sorry.
-/
import Derived.Test.Qxb6615895aChecked
import GoSem.Claim
import GoSem.ClaimJoined
import GoSem.ClaimMapViews
import Derived.JoinedTies
import Derived.KernelRfl
namespace Go.Proofs.Qxb6615895a
/- THE CELL 'sum', in the pinned program and in every row, IS THE sha256 OF THE DUMP (.gsa) THAT Qxb6615895aProg.lean LOADS. Nothing in Lean hashes anything: it is a label: what it is worth is what the hold of that sum in a sandbox is worth. -/
noncomputable def Try.pinned : Pinned := { name := "qxb6615895a", sum := "9c0dfafb512a73cc50d4e399ba2484757766b122b37f93287104537870f7f1ee", checked := Try.checked }
namespace Rows
def none {H : Type} : Left H := { results := [], args := [] }

/-- 'zzlaws_plan_b1.FnSensitiveObjectMarkerPath': WHATEVER THE INPUT: true; the input reads as it did. -/
def fnSensitiveObjectMarkerPathSpec : ChangeSpec := { name := "fnSensitiveObjectMarkerPath", fn := fun _ => fun
  | [d1, d2, d3, d4, d5, d6, d7, d8] => { results := [.lit (.bool true)], args := [d1, d2, d3, d4, d5, d6, d7, d8] }
  | _ => none }
def fnSensitiveObjectMarkerPathRow : OpenClaim := { program := "qxb6615895a", sum := "9c0dfafb512a73cc50d4e399ba2484757766b122b37f93287104537870f7f1ee", func := "example.com/planpath/planpath/zzlaws_plan_b1.FnSensitiveObjectMarkerPath", spec := "fnSensitiveObjectMarkerPath", apart := false }
def FnSensitiveObjectMarkerPathSaid : Prop := fnSensitiveObjectMarkerPathRow.holds Try.pinned (OpenSpec.ofChange fnSensitiveObjectMarkerPathSpec)

/-- ITS FALSE NEIGHBOUR: 'it returns false'. Refute it at one input. -/
def fnSensitiveObjectMarkerPathWrong : ChangeSpec := { name := "fnSensitiveObjectMarkerPath", fn := fun _ => fun
  | [d1, d2, d3, d4, d5, d6, d7, d8] => { results := [.lit (.bool false)], args := [d1, d2, d3, d4, d5, d6, d7, d8] }
  | _ => none }
def FnSensitiveObjectMarkerPathWrongFalsely : Prop := fnSensitiveObjectMarkerPathRow.holds Try.pinned (OpenSpec.ofChange fnSensitiveObjectMarkerPathWrong)

/-- 'zzlaws_plan_b1.FnChangeSeesOnlyUpdate': WHATEVER THE INPUT: true; the input reads as it did. -/
def fnChangeSeesOnlyUpdateSpec : ChangeSpec := { name := "fnChangeSeesOnlyUpdate", fn := fun _ => fun
  | [d1, d2] => { results := [.lit (.bool true)], args := [d1, d2] }
  | _ => none }
def fnChangeSeesOnlyUpdateRow : OpenClaim := { program := "qxb6615895a", sum := "9c0dfafb512a73cc50d4e399ba2484757766b122b37f93287104537870f7f1ee", func := "example.com/planpath/planpath/zzlaws_plan_b1.FnChangeSeesOnlyUpdate", spec := "fnChangeSeesOnlyUpdate", apart := false }
def FnChangeSeesOnlyUpdateSaid : Prop := fnChangeSeesOnlyUpdateRow.holds Try.pinned (OpenSpec.ofChange fnChangeSeesOnlyUpdateSpec)

/-- ITS FALSE NEIGHBOUR: 'it returns false'. Refute it at one input. -/
def fnChangeSeesOnlyUpdateWrong : ChangeSpec := { name := "fnChangeSeesOnlyUpdate", fn := fun _ => fun
  | [d1, d2] => { results := [.lit (.bool false)], args := [d1, d2] }
  | _ => none }
def FnChangeSeesOnlyUpdateWrongFalsely : Prop := fnChangeSeesOnlyUpdateRow.holds Try.pinned (OpenSpec.ofChange fnChangeSeesOnlyUpdateWrong)

/-- 'zzlaws_plan_b1.FnFiguresAndChangeAddUp': WHATEVER THE INPUT: true; the input reads as it did. -/
def fnFiguresAndChangeAddUpSpec : ChangeSpec := { name := "fnFiguresAndChangeAddUp", fn := fun _ => fun
  | [d1, d2] => { results := [.lit (.bool true)], args := [d1, d2] }
  | _ => none }
def fnFiguresAndChangeAddUpRow : OpenClaim := { program := "qxb6615895a", sum := "9c0dfafb512a73cc50d4e399ba2484757766b122b37f93287104537870f7f1ee", func := "example.com/planpath/planpath/zzlaws_plan_b1.FnFiguresAndChangeAddUp", spec := "fnFiguresAndChangeAddUp", apart := false }
def FnFiguresAndChangeAddUpSaid : Prop := fnFiguresAndChangeAddUpRow.holds Try.pinned (OpenSpec.ofChange fnFiguresAndChangeAddUpSpec)

/-- ITS FALSE NEIGHBOUR: 'it returns false'. Refute it at one input. -/
def fnFiguresAndChangeAddUpWrong : ChangeSpec := { name := "fnFiguresAndChangeAddUp", fn := fun _ => fun
  | [d1, d2] => { results := [.lit (.bool false)], args := [d1, d2] }
  | _ => none }
def FnFiguresAndChangeAddUpWrongFalsely : Prop := fnFiguresAndChangeAddUpRow.holds Try.pinned (OpenSpec.ofChange fnFiguresAndChangeAddUpWrong)

end Rows
end Go.Proofs.Qxb6615895a
