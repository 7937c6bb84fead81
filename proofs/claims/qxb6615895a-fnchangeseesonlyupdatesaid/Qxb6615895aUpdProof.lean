import Derived.Test.Qxb6615895aUpdLaw
import Derived.ProofKit
import Derived.OpenShut
namespace Go.Proofs.Qxb6615895a
open Go.ChangeShapes Go.WideShapes Go.ChangeAt Go.RowKit

theorem updOwn : ownKnob Try.prog.godebug = none := by kernel_rfl
theorem updLaidOut : laidOutB Try.prog = true := by kernel_rfl
theorem cells33 : Try.prog.cellsOf 33 = 12 := by kernel_rfl
theorem cells3 : Try.prog.cellsOf 3 = 1 := by kernel_rfl
theorem cells4 : Try.prog.cellsOf 4 = 1 := by kernel_rfl

theorem array12 {α : Type} {cs : Array α} (h : cs.size = 12) : ∃ c0 c1 c2 c3 c4 c5 c6 c7 c8 c9 c10 c11, cs = #[c0, c1, c2, c3, c4, c5, c6, c7, c8, c9, c10, c11] := by
  obtain ⟨l⟩ := cs
  match l, h with
  | [c0, c1, c2, c3, c4, c5, c6, c7, c8, c9, c10, c11], _ => exact ⟨c0, c1, c2, c3, c4, c5, c6, c7, c8, c9, c10, c11, rfl⟩

section
variable {H : Type} {enc : TypeId × Value → H} {w : World} {base : Nat} {spare : Nat → Bool} {held : Bool}
theorem int_cell {n : Nat} {cs : List Value} {xs : List (DataW H × List MemPlace)} {i : Nat} (h : DataW.trod enc Try.prog w base spare held n 3 cs = xs[i]?) (hi : i < xs.length) : ∃ k, cs = [.int .i64 k] := by
  rw [List.getElem?_eq_getElem hi] at h
  obtain ⟨k, hk, _⟩ := DataW.trod_int Try.underlying3 h
  exact ⟨k, hk⟩
theorem bool_cell {n : Nat} {cs : List Value} {xs : List (DataW H × List MemPlace)} {i : Nat} (h : DataW.trod enc Try.prog w base spare held n 4 cs = xs[i]?) (hi : i < xs.length) : ∃ k, cs = [.bool k] := by
  rw [List.getElem?_eq_getElem hi] at h
  obtain ⟨k, hk, _⟩ := DataW.trod_bool Try.underlying4 h
  exact ⟨k, hk⟩

theorem counts_form {r : Reach} {b0 : Nat} {v : Value} {d : DataW H} {p : List MemPlace} (hv : Value.okWide Try.prog w r b0 33 v) (h : DataW.Trod enc Try.prog w base spare held 33 v d p) :
    ∃ (a0 a1 a2 a3 a4 a5 a6 a7 a8 a9 a10 : Int) (a11 : Bool), v = .agg #[.int .i64 a0, .int .i64 a1, .int .i64 a2, .int .i64 a3, .int .i64 a4, .int .i64 a5, .int .i64 a6, .int .i64 a7, .int .i64 a8, .int .i64 a9, .int .i64 a10, .bool a11] := by
  obtain ⟨cs, rfl, hsz⟩ := okWide_struct Try.underlying33 hv
  obtain ⟨c0, c1, c2, c3, c4, c5, c6, c7, c8, c9, c10, c11, rfl⟩ := array12 (hsz.trans cells33)
  obtain ⟨fuel, hf⟩ := h
  obtain ⟨xs, n, _, _, _, hlen, hx⟩ := DataW.trod_struct Try.underlying33 hf
  have hl : xs.length = 12 := hlen
  obtain ⟨a0, e0⟩ := int_cell (hx 0 _ rfl) (by omega)
  obtain ⟨a1, e1⟩ := int_cell (hx 1 _ rfl) (by omega)
  obtain ⟨a2, e2⟩ := int_cell (hx 2 _ rfl) (by omega)
  obtain ⟨a3, e3⟩ := int_cell (hx 3 _ rfl) (by omega)
  obtain ⟨a4, e4⟩ := int_cell (hx 4 _ rfl) (by omega)
  obtain ⟨a5, e5⟩ := int_cell (hx 5 _ rfl) (by omega)
  obtain ⟨a6, e6⟩ := int_cell (hx 6 _ rfl) (by omega)
  obtain ⟨a7, e7⟩ := int_cell (hx 7 _ rfl) (by omega)
  obtain ⟨a8, e8⟩ := int_cell (hx 8 _ rfl) (by omega)
  obtain ⟨a9, e9⟩ := int_cell (hx 9 _ rfl) (by omega)
  obtain ⟨a10, e10⟩ := int_cell (hx 10 _ rfl) (by omega)
  obtain ⟨a11, e11⟩ := bool_cell (hx 11 _ rfl) (by omega)
  simp [Value.cells, cells3, cells4] at e0 e1 e2 e3 e4 e5 e6 e7 e8 e9 e10 e11
  exact ⟨a0, a1, a2, a3, a4, a5, a6, a7, a8, a9, a10, a11, by rw [e0, e1, e2, e3, e4, e5, e6, e7, e8, e9, e10, e11]⟩
end

set_option maxRecDepth 100000 in
theorem fnChangeSeesOnlyUpdate_lifted (os : Os) (started : os.Started) (H : Type) (enc : TypeId × Value → H) :
    ReturnsInHanded {} Try.checked os 4 .any (Rows.fnChangeSeesOnlyUpdateSpec.pre6 enc Try.prog Try.f4 Rows.fnChangeSeesOnlyUpdateRow.domain false) (Rows.fnChangeSeesOnlyUpdateSpec.post enc Try.prog Try.f4 false true false false) := by
  refine returnsInHanded_of_change (C := Try.checked) updOwn started (by kernel_rfl) Try.func4
    (ChangeSpec.witness6 (enc := enc) (C := Try.checked) false ⟨#[], #[.agg #[.int .i64 0, .int .i64 0, .int .i64 0, .int .i64 0, .int .i64 0, .int .i64 0, .int .i64 0, .int .i64 0, .int .i64 0, .int .i64 0, .int .i64 0, .bool false], .agg #[.int .i64 0, .int .i64 0, .int .i64 0, .int .i64 0, .int .i64 0, .int .i64 0, .int .i64 0, .int .i64 0, .int .i64 0, .int .i64 0, .int .i64 0, .bool false]], []⟩ 8 (by kernel_rfl) (by kernel_rfl) (by kernel_rfl) (by kernel_rfl)) ?_
  intro W base args ds gs before hval0 hW hcnd _
  have hval : ∀ (j : Nat) t v, Try.f4.params[j]? = some t → args[j]? = some v → Value.okWide Try.prog W .any base t v := hval0
  have hW' := hW
  obtain ⟨p, q, hA0, hV, rfl, hfz, hnd⟩ := hW
  have hA : DataW.TrodAll enc Try.prog W 0 (fun _ => true) true Try.f4.params.toList args.toList ds p := hA0
  rw [Try.params4] at hA hval
  obtain ⟨v0, vs0, d0, ds0, p0, q0, hargs, rfl, rfl, h0, r0⟩ := trodAll_cons hA
  obtain ⟨v1, vs1, d1, ds1, p1, q1, rfl, rfl, rfl, h1, r1⟩ := trodAll_cons r0
  obtain ⟨rfl, rfl, rfl⟩ := trodAll_nil r1
  obtain rfl : args = #[v0, v1] := by cases args; simp_all
  obtain ⟨rfl, rfl⟩ := trodVars_none hV
  have lt0 : ∀ x ∈ p0, x.block < W.heap.size := by obtain ⟨m, hm⟩ := h0; exact DataW.trod_lt m _ _ _ hm
  have lt1 : ∀ x ∈ p1, x.block < W.heap.size := by obtain ⟨m, hm⟩ := h1; exact DataW.trod_lt m _ _ _ hm
  obtain ⟨a0, a1, a2, a3, a4, a5, a6, a7, a8, a9, a10, a11, ea⟩ := counts_form (hval 0 33 v0 rfl rfl) h0
  obtain ⟨b0, b1, b2, b3, b4, b5, b6, b7, b8, b9, b10, b11, eb⟩ := counts_form (hval 1 33 v1 rfl rfl) h1
  subst ea; subst eb
  clear hA0 hval0
  refine (upd_any a0 a1 a2 a3 a4 a5 a6 a7 a8 a9 a10 a11 b0 b1 b2 b3 b4 b5 b6 b7 b8 b9 b10 b11 W).mono fun e W' ⟨he, bel⟩ => ?_
  subst he
  exact ⟨_, rfl, _, _, _, [], _, [], hW', trodAll_mk1 (shut_bool Try.underlying4 _), (trodAll_cons_mk (Below.trod updLaidOut (by kernel_rfl) (of_decide_eq_true (by kernel_rfl)) h0 bel lt0) (trodAll_cons_mk (Below.trod updLaidOut (by kernel_rfl) (of_decide_eq_true (by kernel_rfl)) h1 bel lt1) trodAll_mk0)), rfl, bel.frame _, fun h => by cases h⟩

theorem fnChangeSeesOnlyUpdate_proved : Rows.FnChangeSeesOnlyUpdateSaid :=
  OpenClaim.holds_of_wide 4 Try.f4 rfl rfl rfl rfl rfl rfl rfl ⟨rfl, rfl, rfl, rfl, rfl⟩ rfl rfl rfl rfl rfl (by kernel_rfl) Try.func4 (by kernel_rfl)
    (of_decide_eq_true (by kernel_rfl)) (by unfold Func.isWrapper; first | (rw [if_pos (by decide +kernel)]; kernel_rfl) | (rw [if_neg (by decide +kernel)]; exact ⟨rfl, rfl⟩))
    (fun os started H enc _ => fnChangeSeesOnlyUpdate_lifted os started H enc)
end Go.Proofs.Qxb6615895a
