import Derived.Test.Qxb6613723aPosD
namespace Go.Proofs.Qxb6613723a.Pos
open Go.RowKit
set_option linter.unusedSimpArgs false
set_option linter.unusedVariables false
attribute [local go_sem ↓] Go.wp_at_zero Go.wp_at_succ

set_option maxHeartbeats 2000000 in
theorem zexact_small (x ex : Int) (h1 : -9223372036854775808 < x) (h2 : x ≤ 9223372036854775807) (w : World) :
    Calls Try.prog 5 #[.int .i64 x, .int .i32 ex] w fun e w' => e = .returned (.agg #[.int .i64 x, .int .i32 ex, .pointer none]) ∧ Below w.heap.size w w' := by
  go_enter Try.func5, Try.ntmps5
  go_wp2_with (go_at_call 8; refine (dnew_any x ex (by omega) h2 _).mono ?_; rintro e w1 ⟨q, rfl, hB, hP, hb⟩)
  refine (exact_small q x ex _ h1 h2 _ hB hP).mono ?_
  rintro e w2 ⟨rfl, hb2⟩
  have hbt := hb.trans (hb2.mono hb.size)
  obtain ⟨hc, hf⟩ := bcell hbt
  have hz : w.heap.size < w2.heap.size := by have := hbt.size; simp at this; omega
  go_wp2
  refine bodyPost_ret (v := .agg #[.int .i64 x, .int .i32 ex, .pointer none]) (by simp [results, Try.results5, go_sem, hc, hz]) rfl ⟨rfl, ?_⟩
  have h0 : Below w.heap.size w w2 := ((Below.refl _ _).alloc (Nat.le_refl _) _).trans (hbt.mono (by simp))
  with_reducible repeat (first | exact h0 | refine Below.setCell ?_ (by simp) _)

set_option maxHeartbeats 2000000 in
theorem zexact_min (x ex : Int) (hx : x = -9223372036854775808) (w : World) :
    Calls Try.prog 5 #[.int .i64 x, .int .i32 ex] w fun e w' => ∃ p, e = .returned (.agg #[.int .i64 0, .int .i32 ex, .pointer (some ⟨p, 0, none⟩)]) ∧ BigAt w.heap.size w' p x ∧ Below w.heap.size w w' := by
  have HX : Hid (x = -9223372036854775808) := hx
  have h1 : -9223372036854775808 ≤ x := by omega
  have h2 : x ≤ 9223372036854775807 := by omega
  clear hx
  go_enter Try.func5, Try.ntmps5
  go_wp2_with (go_at_call 8; refine (dnew_any x ex h1 h2 _).mono ?_; rintro e w1 ⟨q, rfl, hB, hP, hb⟩)
  refine (exact_min q x ex _ HX.out _ hB hP).mono ?_
  rintro e w2 ⟨p, rfl, hBp, hb2⟩
  have hbt := hb.trans (hb2.mono hb.size)
  obtain ⟨hc, hf⟩ := bcell hbt
  have hz : w.heap.size < w2.heap.size := by have := hbt.size; simp at this; omega
  have hz1 : w.heap.size < w1.heap.size := by have := hb.size; simp at this; omega
  go_wp2
  refine bodyPost_ret (v := .agg #[.int .i64 0, .int .i32 ex, .pointer (some ⟨p, 0, none⟩)]) (by simp [results, Try.results5, go_sem, hc, hz]) rfl ⟨p, rfl, ?_, ?_⟩
  · exact (((hBp.store hz1 _).store hz1 _).store hz1 _).lower (by omega)
  · have h0 : Below w.heap.size w w2 := ((Below.refl _ _).alloc (Nat.le_refl _) _).trans (hbt.mono (by simp))
    with_reducible repeat (first | exact h0 | refine Below.setCell ?_ (by simp) _)

end Go.Proofs.Qxb6613723a.Pos
