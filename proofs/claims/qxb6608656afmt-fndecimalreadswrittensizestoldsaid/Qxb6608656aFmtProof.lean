import Derived.Test.Qxb6608656aFmtOf
namespace Go.Proofs.Qxb6608656aFmt.Dec
open Go.ChangeShapes Go.WideShapes Go.ChangeAt Go.RowKit
set_option linter.unusedVariables false

theorem laidOut : laidOutB Tryf.prog = true := by kernel_rfl
theorem rowed : varsRowed Tryf.prog Rows.fnDecimalReadsWrittenSizesSpec.vars = true := by kernel_rfl

theorem witness_row (os : Os) {H : Type} (enc : TypeId × Value → H) :
    (OpenSpec.ofChange Rows.fnDecimalReadsWrittenSizesSpec).preRow enc Tryf.prog Tryf.f3 Rows.fnDecimalReadsWrittenSizesRow.domain false Rows.fnDecimalReadsWrittenSizesRow.laid ((World.doorLaid Tryf.prog 67 os).forCall (fun _ _ => 0) ⟨#[], #[.int .i8 0, .int .i64 0], []⟩).memory #[.int .i8 0, .int .i64 0] :=
  OpenSpec.preRow_of_B rfl 8 (by kernel_rfl) (by kernel_rfl) (door_met os _)

set_option maxRecDepth 100000 in
theorem lifted (os : Os) (started : os.Started) (H : Type) (enc : TypeId × Value → H) :
    ReturnsInTold none {} Tryf.checked os 3 .any Input.okWide ((OpenSpec.ofChange Rows.fnDecimalReadsWrittenSizesSpec).preRow enc Tryf.prog Tryf.f3 Rows.fnDecimalReadsWrittenSizesRow.domain false Rows.fnDecimalReadsWrittenSizesRow.laid)
      (fun F => ((OpenSpec.ofChange Rows.fnDecimalReadsWrittenSizesSpec).at F).post enc Tryf.prog Tryf.f3 false true false false) (aloneAtReturn Tryf.prog) nothingAlways := by
  refine returnsInTold_of_row (C := Tryf.checked) (s := OpenSpec.ofChange Rows.fnDecimalReadsWrittenSizesSpec) (by kernel_rfl) own started (by kernel_rfl) Tryf.func3
    (OpenSpec.witness_stopped_atRef (enc := enc) (C := Tryf.checked) false (World.doorLaid Tryf.prog 67 os) #[.int .i8 0, .int .i64 0] rfl (by kernel_rfl) (by kernel_rfl) (by kernel_rfl) (witness_row os enc)) ?_
  intro F W base args ds gs before _ hF hval0 hW _ _ _ hL _
  have hval : ∀ (j : Nat) t v, Tryf.f3.params[j]? = some t → args[j]? = some v → Value.okWide Tryf.prog W .any base t v := hval0
  have hW' := hW
  obtain ⟨p, q, hA0, hV0, rfl, _, _⟩ := hW
  have hA : DataW.TrodAll enc Tryf.prog W 0 (fun _ => true) true Tryf.f3.params.toList args.toList ds p := hA0
  have hV : DataW.TrodVars enc Tryf.prog W (fun _ => true) Rows.fnDecimalReadsWrittenSizesSpec.vars gs q := hV0
  rw [Tryf.params3] at hA hval
  obtain ⟨v0, v1, d0, d1, p0, p1, rfl, rfl, rfl, h0, h1⟩ := trodAll_two hA
  obtain ⟨a0, rfl, rfl, rfl, w0⟩ := open_int Tryf.underlying22 (hval 0 22 v0 rfl rfl) h0
  obtain ⟨a1, rfl, rfl, rfl, w1⟩ := open_int Tryf.underlying2 (hval 1 2 v1 rfl rfl) h1
  obtain ⟨g, t, cs, fuel, d, pd, rfl, -, -, -, -, -⟩ := trodVars_one hV
  clear hA0 hV0 hval0
  have hn : -9223372036854775808 ≤ a1 ∧ a1 ≤ 9223372036854775807 := by
    simp [Lit.wf, IntKind.min, IntKind.max, IntKind.signed, IntKind.bits] at w1; omega
  refine (law_any a0 a1 hn.1 hn.2 W hL).mono fun e W' ⟨he, bel⟩ => ?_
  subst he
  exact ⟨_, rfl, _, _, _, [], [], q, hW', trodAll_mk1 (shut_bool Tryf.underlying4 _), trodAll_mk2 (shut_int Tryf.underlying22 w0) (shut_int Tryf.underlying2 w1), Below.trodVars laidOut bel rowed hV, bel.frame _, fun h => by cases h⟩

theorem stops : Tryf.pinned.checked.prog.stops = Rows.fnDecimalReadsWrittenSizesRow.stops := by kernel_rfl
theorem stopKnobs : Tryf.pinned.checked.prog.stopKnobs = [] := by kernel_rfl
theorem quiet (os : Os) : Stop.quiet Tryf.pinned.checked.prog os := by
  intro k hk
  rw [stopKnobs] at hk
  cases hk
end Go.Proofs.Qxb6608656aFmt.Dec
namespace Go.Proofs.Qxb6608656aFmt
open Go
theorem fnDecimalReadsWrittenSizes_told : Rows.FnDecimalReadsWrittenSizesToldSaid :=
  Claim7.holds_of_told_tied_any_at .later 3 Tryf.f3 "fmt.errorf" ["fmt.Sprintf"] [] Rows.fnDecimalReadsWrittenSizesCard.stood.harness true false [.data, .data, .data, .sentinel, .sentinel, .data] true
    (by kernel_rfl) rfl rfl rfl Dec.laidOut (by kernel_rfl) rfl ⟨rfl, rfl, rfl, rfl, rfl, rfl, rfl⟩ rfl rfl (by kernel_rfl) (by kernel_rfl) Tryf.func3 (by kernel_rfl)
    (of_decide_eq_true (by kernel_rfl)) (of_decide_eq_true (by kernel_rfl)) Dec.stops.symm rfl Dec.stopKnobs.symm (by kernel_rfl)
    (by kernel_rfl) (by kernel_rfl) (by kernel_rfl) (by kernel_rfl) (by kernel_rfl) (by kernel_rfl) (by kernel_rfl) (by kernel_rfl) (by kernel_rfl) rfl (by kernel_rfl) rfl rfl
    rfl rfl
    rfl (by kernel_rfl) (by kernel_rfl) (by kernel_rfl) (by decide) (by kernel_rfl) fnDecimalReadsWrittenSizes_row_tie
    (OpenClaim.moreEntering_of (by kernel_rfl) (by kernel_rfl) (by kernel_rfl) (by kernel_rfl) (by kernel_rfl) (by kernel_rfl) (by kernel_rfl) (by kernel_rfl) (by kernel_rfl) (by kernel_rfl))
    ⟨_, WideRow.started_initial, Dec.quiet _⟩
    (fun os started _ H enc _ => Dec.lifted os started H enc)
end Go.Proofs.Qxb6608656aFmt
