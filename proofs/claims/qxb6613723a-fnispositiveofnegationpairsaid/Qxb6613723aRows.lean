/-
  No cell of these rows narrows 'for every input' (looked for: loops, veiled, ifaces, maps, wideKeys, modest, calm, conditions, laid).
  DERIVED. THE GIVEN ROWS OF THIS SEAT. 1 by the template 'for every input the law returns true; each argument reads behind the call as it read before'; 0 by the template 'total and deterministic' (their statements: Qxb6613723aTotals.lean).
  GIVEN WITH THE SEED: the statements are not yours to turn. If you find one false, say at which input.
  Laid BY PROGRAM, IN A SANDBOX (cutbox-rows.mjs): the forced cells as the released guide's own fill.sh prints them over the translation d4e83d8c736d5477… (all of the seat's roots in one cut). By AI agents, Wed Nov 11 2026. No macro, syntax, notation, axiom, sorry.
-/
import Derived.Test.Qxb6613723aChecked
import GoSem.Claim
import GoSem.ClaimJoined
import GoSem.ClaimMapViews
import Derived.JoinedTies
import Derived.KernelRfl
namespace Go.Proofs.Qxb6613723a
/- THE CELL 'sum', in the pinned program and in every row, IS THE sha256 OF THE DUMP (.gsa) THAT Qxb6613723aProg.lean LOADS. Nothing in Lean hashes anything: it is a label: what it is worth is what the hold of that sum in a sandbox is worth. -/
noncomputable def Try.pinned : Pinned := { name := "qxb6613723a", sum := "d4e83d8c736d5477d97cad0bf264b321b2ac8b4e3276fdb11731266f17950c30", checked := Try.checked }
namespace Rows
def none {H : Type} : Left H := { results := [], args := [] }

/-- 'zzlaws_internal_allocation_b1.FnIsPositiveOfNegationPair': WHATEVER THE INPUT: true; the input reads as it did. -/
def fnIsPositiveOfNegationPairSpec : ChangeSpec := { name := "fnIsPositiveOfNegationPair", fn := fun _ => fun
  | [d1, d2] => { results := [.lit (.bool true)], args := [d1, d2] }
  | _ => none }
def fnIsPositiveOfNegationPairRow : OpenClaim := { program := "qxb6613723a", sum := "d4e83d8c736d5477d97cad0bf264b321b2ac8b4e3276fdb11731266f17950c30", func := "example.com/tierfold/tierfold/zzlaws_internal_allocation_b1.FnIsPositiveOfNegationPair", spec := "fnIsPositiveOfNegationPair", apart := false }
def FnIsPositiveOfNegationPairSaid : Prop := fnIsPositiveOfNegationPairRow.holds Try.pinned (OpenSpec.ofChange fnIsPositiveOfNegationPairSpec)

/-- ITS FALSE NEIGHBOUR: 'it returns false'. Refute it at one input. -/
def fnIsPositiveOfNegationPairWrong : ChangeSpec := { name := "fnIsPositiveOfNegationPair", fn := fun _ => fun
  | [d1, d2] => { results := [.lit (.bool false)], args := [d1, d2] }
  | _ => none }
def FnIsPositiveOfNegationPairWrongFalsely : Prop := fnIsPositiveOfNegationPairRow.holds Try.pinned (OpenSpec.ofChange fnIsPositiveOfNegationPairWrong)

end Rows
end Go.Proofs.Qxb6613723a
