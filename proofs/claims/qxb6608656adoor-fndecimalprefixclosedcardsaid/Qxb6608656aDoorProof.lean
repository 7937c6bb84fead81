import Derived.Test.Qxb6608656aDoorLaw
import Derived.Test.Qxb6608656aDoorTie
import Derived.Test.Qxb6608656aDoorCards
import Derived.ProofKit
import Derived.LaidMore
import Derived.OpenShut
import Derived.Stop.Joined
import Derived.Stop.LaidErr
import Derived.SevenTiedAt
namespace Go.Proofs.Qxb6608656aDoor.Dec
open Go.ChangeShapes Go.WideShapes Go.ChangeAt Go.RowKit

theorem own : ownKnob Tryd.prog.godebug = none := by kernel_rfl
theorem gES : Tryd.prog.globalNamed "strconv.ErrSyntax" = some 0 := by kernel_rfl
theorem gER : Tryd.prog.globalNamed "strconv.ErrRange" = some 1 := by kernel_rfl
theorem tES : (Tryd.prog.globals[0]?).map (·.type) = some 25 := by kernel_rfl
theorem tER : (Tryd.prog.globals[1]?).map (·.type) = some 25 := by kernel_rfl
theorem cells47 : Tryd.prog.cellsOf 47 = 1 := by kernel_rfl
theorem cells9 : Tryd.prog.cellsOf 9 = 1 := by kernel_rfl
/-- The dynamic type's name in a listed sentinel. -/
def nmOf (d : DataW Unit) : String :=
  match d with
  | .iface n _ => n
  | _ => ""
/-- THE ONE ROW OF THAT NAME. -/
theorem row45 (u : TypeId) (h : Tryd.prog.typeName? 3 u = some (nmOf Rows.laid_strconv_ErrRange)) : u = 45 :=
  typeName_ptr_named (nm := "errors.errorString") (by kernel_rfl) (by kernel_rfl) (by decide) u (h.trans (congrArg some (by kernel_rfl)))

/-- The door's own heap meets the condition. -/
theorem door_met (os : Os) (args : Array Value) : laidMetH Tryd.prog Rows.fnDecimalPrefixClosedRow.laid ((World.doorLaid Tryd.prog 62 os).forCall (fun _ _ => 0) ⟨#[], args, []⟩).memory :=
  laidMetH_of_parts3 (fuel := 8) (laidMet_of_run' 8 (by kernel_rfl) (by kernel_rfl)) (by kernel_rfl) (by kernel_rfl)

/-- What the condition gives the walk: the two variables. -/
theorem of_laid {W : World} (h : laidMetH Tryd.prog Rows.fnDecimalPrefixClosedRow.laid W) :
    (∃ p, W.var? Tryd.prog "strconv.ErrSyntax" = some #[.iface 45 p]) ∧ (∃ q, W.var? Tryd.prog "strconv.ErrRange" = some #[.iface 45 q]) := by
  rw [MakeChecks.laidMetH_plain _ _ _ (by kernel_rfl)] at h
  have h3 := h.tail.tail.tail
  obtain ⟨a0, s0, hv0, -, -, -⟩ := laid_sentinel h3 gER tER Tryd.underlying25 row45 Tryd.underlying45 Tryd.underlying47 rfl rfl Tryd.underlying9 cells47 cells9
  obtain ⟨a1, s1, hv1, -, -, -⟩ := laid_sentinel h3.tail gES tES Tryd.underlying25 row45 Tryd.underlying45 Tryd.underlying47 rfl rfl Tryd.underlying9 cells47 cells9
  exact ⟨⟨_, hv1⟩, ⟨_, hv0⟩⟩

set_option maxRecDepth 100000 in
theorem lifted (os : Os) (started : os.Started) (H : Type) (enc : TypeId × Value → H) :
    ReturnsInHanded {} Tryd.checked os 3 .any (fun w args => (Rows.fnDecimalPrefixClosedSpec.pre enc Tryd.prog Tryd.f3 [] false w args ∧ laidMetH Tryd.prog Rows.fnDecimalPrefixClosedRow.laid w) ∧ sizedMet enc Tryd.prog Tryd.f3 (OpenSpec.ofChange Rows.fnDecimalPrefixClosedSpec) false w args)
      (Rows.fnDecimalPrefixClosedSpec.post enc Tryd.prog Tryd.f3 false true false false) := by
  refine returnsInHanded_of_change_and (C := Tryd.checked) (X := fun w _ => laidMetH Tryd.prog Rows.fnDecimalPrefixClosedRow.laid w) (fun _ _ _ hh h => h.of_heap hh) own started (by kernel_rfl) Tryd.func3
    (ChangeSpec.witness_shaped (enc := enc) (C := Tryd.checked) (os := os) (X := fun w _ => laidMetH Tryd.prog Rows.fnDecimalPrefixClosedRow.laid w) false (World.doorLaid Tryd.prog 62 os) #[.string ByteArray.empty, .string ByteArray.empty] 8 rfl (World.shaped_of_RefB (by kernel_rfl) (by kernel_rfl)) (by kernel_rfl) (by kernel_rfl) (by kernel_rfl) (door_met os _)) ?_
  intro W base args ds gs before hval0 hW _ _ hL _
  have hval : ∀ (j : Nat) t v, Tryd.f3.params[j]? = some t → args[j]? = some v → Value.okWide Tryd.prog W .any base t v := hval0
  have hW' := hW
  obtain ⟨p, q, hA0, hV, rfl, hfz, hnd⟩ := hW
  have hA : DataW.TrodAll enc Tryd.prog W 0 (fun _ => true) true Tryd.f3.params.toList args.toList ds p := hA0
  rw [Tryd.params3] at hA hval
  obtain ⟨v0, v1, d0, d1, p0, p1, rfl, rfl, rfl, h0, h1⟩ := trodAll_two hA
  obtain ⟨rfl, rfl⟩ := trodVars_none hV
  obtain ⟨s0, rfl, rfl, rfl, hs0⟩ := Go.ChangeMaps.open_string Tryd.underlying9 (hval 0 9 v0 rfl rfl) h0
  obtain ⟨s1, rfl, rfl, rfl, hs1⟩ := Go.ChangeMaps.open_string Tryd.underlying9 (hval 1 9 v1 rfl rfl) h1
  clear hA0 hval0
  obtain ⟨⟨x, hx⟩, ⟨y, hy⟩⟩ := of_laid hL
  refine (law_any s0 s1 hs0 hs1 45 45 x y W hx hy).mono fun e W' ⟨he, bel⟩ => ?_
  subst he
  exact ⟨_, rfl, _, _, _, [], [], [], hW', trodAll_mk1 (shut_bool Tryd.underlying4 _), trodAll_mk2 (Go.ChangeMaps.shut_string Tryd.underlying9 hs0) (Go.ChangeMaps.shut_string Tryd.underlying9 hs1), rfl, bel.frame _, fun h => by cases h⟩

theorem rowHolds : Rows.FnDecimalPrefixClosedSaid :=
  OpenClaim.holds_of_wide 3 Tryd.f3 rfl rfl rfl rfl rfl rfl rfl ⟨rfl, rfl, rfl, rfl, rfl⟩ rfl rfl rfl rfl rfl (by kernel_rfl) Tryd.func3 (by kernel_rfl)
    (of_decide_eq_true (by kernel_rfl)) (by unfold Func.isWrapper; first | (rw [if_pos (by decide +kernel)]; kernel_rfl) | (rw [if_neg (by decide +kernel)]; exact ⟨rfl, rfl⟩))
    (fun os started H enc _ => lifted os started H enc)
end Go.Proofs.Qxb6608656aDoor.Dec
namespace Go.Proofs.Qxb6608656aDoor
open Go
theorem fnDecimalPrefixClosed_card : Rows.FnDecimalPrefixClosedCardSaid :=
  Claim7.holds_tied_plain_at .later [] [.data, .data, .data, .sentinel, .sentinel] true Rows.fnDecimalPrefixClosedCard.stood.harness true
    Dec.rowHolds (fun _ h => by cases h) (by kernel_rfl) (fun _ h => by cases h) fnDecimalPrefixClosed_row_tie rfl ⟨rfl, rfl⟩ (by kernel_rfl) rfl
    (fun f fn hf hfn => by
      obtain rfl : f = 3 := Option.some.inj ((show Tryd.prog.funcNamed Rows.fnDecimalPrefixClosedRow.func = some 3 by kernel_rfl).symm.trans hf) |>.symm
      obtain rfl : fn = Tryd.f3 := (Option.some.inj (Tryd.func3.symm.trans hfn)).symm
      exact ⟨by kernel_rfl, fun j t ht => by
        rw [Tryd.params3] at ht
        have hm : t ∈ [9, 9] := by simpa using Array.mem_of_getElem? ht
        have hall : ([9, 9].all fun u => !Tryd.prog.wantsStandIn u) = true := by kernel_rfl
        exact (show Tryd.prog.wantsStandIn t = false by simpa using List.all_eq_true.1 hall t hm)⟩)
    (by kernel_rfl)
end Go.Proofs.Qxb6608656aDoor
