import Derived.Test.Qxb6608958aDoorLaw
import Derived.Test.Qxb6608958aDoorTie
import Derived.Test.Qxb6608958aDoorCards
import Derived.ProofKit
import Derived.OpenShut
import Derived.LaidMore
import Derived.LaidHandle
import Derived.Stop.Joined
import Derived.SevenTiedAt
namespace Go.Proofs.Qxb6608958aDoor.Fl
open Go.ChangeShapes Go.WideShapes Go.ChangeAt Go.RowKit

theorem own : ownKnob Tryd.prog.godebug = none := by kernel_rfl
theorem et : Tryd.prog.globalNamed "errors.errorType" = some 0 := by kernel_rfl
/-- The dynamic type's name in the listed handle. -/
def nmOf (d : DataW Unit) : String :=
  match d with
  | .iface n _ => n
  | _ => ""
theorem rt : (Tryd.prog.cutTypes.find? (·.1 == nmOf Rows.laid_errors_errorType)).map (·.2) = some 53 := by kernel_rfl
theorem oneRow : ((List.range 105).filter fun t => Tryd.prog.rowNamed t [101, 114, 114, 111, 114]) = [28] := by kernel_rfl
theorem tsize : Tryd.prog.types.size = 105 := by kernel_rfl

/-- What the condition gives the walk: the variable's one cell. -/
theorem handle_of_laid {W : World} (h : laidMetH Tryd.prog Rows.fnValueProblemsOfTextAgreesWithOneFaultRow.laid W) : Er W := by
  have h' : laidMet Tryd.prog [] W ∧ handlesMet Tryd.prog Rows.fnValueProblemsOfTextAgreesWithOneFaultRow.laid W := h
  obtain ⟨name, u, ty, e1, e2, e3, e4, e5⟩ := h'.2 _ (List.mem_singleton.2 rfl)
  have en : name = [101, 114, 114, 111, 114] := (Option.some.inj e1).symm
  subst en
  obtain rfl := Option.some.inj (rt.symm.trans e2)
  have hm : ty ∈ (List.range 105).filter fun t => Tryd.prog.rowNamed t [101, 114, 114, 111, 114] := List.mem_filter.2 ⟨List.mem_range.2 (by rw [← tsize]; exact e3), e4⟩
  rw [oneRow] at hm
  obtain rfl := List.mem_singleton.1 hm
  have hh : typeHandle Tryd.prog 28 = .pointer (some ⟨2, 28, none⟩) := by kernel_rfl
  rw [hh] at e5
  simpa [Er] using World.var?_cell et e5 0

/-- The door's own heap meets the condition. -/
theorem door_met (os : Os) (args : Array Value) : laidMetH Tryd.prog Rows.fnValueProblemsOfTextAgreesWithOneFaultRow.laid ((World.doorLaid Tryd.prog 16 os).forCall (fun _ _ => 0) ⟨#[], args, []⟩).memory :=
  laidMetH_of_parts (laidMet_nil _ _) (by kernel_rfl)

theorem law_any (s : ByteArray) (w : World) (hg : Er w) : Calls Tryd.prog 3 #[.string s] w fun ev w' => ev = .returned (.bool true) ∧ Below w.heap.size w w' := by
  by_cases h : s.size ≤ 1048576
  · exact law_small s h w hg
  · exact law_large s h w

set_option maxRecDepth 100000 in
theorem lifted (os : Os) (started : os.Started) (H : Type) (enc : TypeId × Value → H) :
    ReturnsInHanded {} Tryd.checked os 3 .any (fun w args => (Rows.fnValueProblemsOfTextAgreesWithOneFaultSpec.pre enc Tryd.prog Tryd.f3 [] false w args ∧ laidMetH Tryd.prog Rows.fnValueProblemsOfTextAgreesWithOneFaultRow.laid w) ∧ sizedMet enc Tryd.prog Tryd.f3 (OpenSpec.ofChange Rows.fnValueProblemsOfTextAgreesWithOneFaultSpec) false w args)
      (Rows.fnValueProblemsOfTextAgreesWithOneFaultSpec.post enc Tryd.prog Tryd.f3 false true false false) := by
  refine returnsInHanded_of_change_and (C := Tryd.checked) (X := fun w _ => laidMetH Tryd.prog Rows.fnValueProblemsOfTextAgreesWithOneFaultRow.laid w) (fun _ _ _ hh h => h.of_heap hh) own started (by kernel_rfl) Tryd.func3
    (ChangeSpec.witness_shaped (enc := enc) (C := Tryd.checked) (os := os) (X := fun w _ => laidMetH Tryd.prog Rows.fnValueProblemsOfTextAgreesWithOneFaultRow.laid w) false (World.doorLaid Tryd.prog 16 os) #[.string ByteArray.empty] 8 rfl (World.shaped_of_RefB (by kernel_rfl) (by kernel_rfl)) (by kernel_rfl) (by kernel_rfl) (by kernel_rfl) (door_met os _)) ?_
  intro W base args ds gs before hval0 hW _ _ hL _
  have hval : ∀ (j : Nat) t v, Tryd.f3.params[j]? = some t → args[j]? = some v → Value.okWide Tryd.prog W .any base t v := hval0
  have hW' := hW
  obtain ⟨p, q, hA0, hV, rfl, hfz, hnd⟩ := hW
  have hA : DataW.TrodAll enc Tryd.prog W 0 (fun _ => true) true Tryd.f3.params.toList args.toList ds p := hA0
  rw [Tryd.params3] at hA hval
  obtain ⟨v0, d0, rfl, rfl, h0⟩ := trodAll_one hA
  obtain ⟨rfl, rfl⟩ := trodVars_none hV
  obtain ⟨s0, rfl, rfl, rfl, hs0⟩ := Go.ChangeMaps.open_string Tryd.underlying9 (hval 0 9 v0 rfl rfl) h0
  clear hA0 hval0
  refine (law_any s0 W (handle_of_laid hL)).mono fun e W' ⟨he, bel⟩ => ?_
  subst he
  exact ⟨_, rfl, _, _, _, [], [], [], hW', trodAll_mk1 (shut_bool Tryd.underlying4 _), trodAll_mk1 (Go.ChangeMaps.shut_string Tryd.underlying9 hs0), rfl, bel.frame _, fun h => by cases h⟩

theorem rowHolds : Rows.FnValueProblemsOfTextAgreesWithOneFaultSaid :=
  OpenClaim.holds_of_wide 3 Tryd.f3 rfl rfl rfl rfl rfl rfl rfl ⟨rfl, rfl, rfl, rfl, rfl⟩ rfl rfl rfl rfl rfl (by kernel_rfl) Tryd.func3 (by kernel_rfl)
    (of_decide_eq_true (by kernel_rfl)) (by unfold Func.isWrapper; first | (rw [if_pos (by decide +kernel)]; kernel_rfl) | (rw [if_neg (by decide +kernel)]; exact ⟨rfl, rfl⟩))
    (fun os started H enc _ => lifted os started H enc)
end Go.Proofs.Qxb6608958aDoor.Fl
namespace Go.Proofs.Qxb6608958aDoor
open Go
theorem fnValueProblemsOfTextAgreesWithOneFault_card : Rows.FnValueProblemsOfTextAgreesWithOneFaultCardSaid :=
  Claim7.holds_tied_plain_at .later [] [.handle] true Rows.fnValueProblemsOfTextAgreesWithOneFaultCard.stood.harness true
    Fl.rowHolds (fun _ h => by cases h) (by kernel_rfl) (fun _ h => by cases h) fnValueProblemsOfTextAgreesWithOneFault_row_tie rfl ⟨rfl, rfl⟩ (by kernel_rfl) rfl
    (fun f fn hf hfn => by
      obtain rfl : f = 3 := Option.some.inj ((show Tryd.prog.funcNamed Rows.fnValueProblemsOfTextAgreesWithOneFaultRow.func = some 3 by kernel_rfl).symm.trans hf) |>.symm
      obtain rfl : fn = Tryd.f3 := (Option.some.inj (Tryd.func3.symm.trans hfn)).symm
      exact ⟨by kernel_rfl, fun j t ht => by
        rw [Tryd.params3] at ht
        have hm : t ∈ [9] := by simpa using Array.mem_of_getElem? ht
        have hall : ([9].all fun u => !Tryd.prog.wantsStandIn u) = true := by kernel_rfl
        exact (show Tryd.prog.wantsStandIn t = false by simpa using List.all_eq_true.1 hall t hm)⟩)
    (by kernel_rfl)
end Go.Proofs.Qxb6608958aDoor
