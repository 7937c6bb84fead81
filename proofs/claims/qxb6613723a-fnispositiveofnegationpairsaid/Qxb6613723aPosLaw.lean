import Derived.Test.Qxb6613723aPosE
import Derived.Test.Qxb6613723aPosF
namespace Go.Proofs.Qxb6613723a.Pos
open Go.RowKit
set_option linter.unusedSimpArgs false
set_option linter.unusedVariables false
attribute [local go_sem ↓] Go.wp_at_zero Go.wp_at_succ
theorem sg_pos (x : Int) : decide (0 < sg x) = decide (0 < x) := by
  unfold sg; by_cases h : x < 0
  · simp [h]; omega
  · by_cases h2 : 0 < x <;> simp [h, h2]
set_option maxHeartbeats 2000000 in
theorem law_min (x ex : Int) (hx : x = -9223372036854775808) (w : World) :
    Calls Try.prog 3 #[.int .i64 x, .int .i32 ex] w fun e w' => e = .returned (.bool true) ∧ Below w.heap.size w w' := by
  have HX : Hid (x = -9223372036854775808) := hx
  have hq : (x == -9223372036854775808) = true := by simp [hx]
  clear hx
  go_enter Try.func3, Try.ntmps3
  go_wp2_with (go_at_call 5; refine (zexact_min x ex HX.out _).mono ?_; rintro e w1 ⟨p, rfl, hB, hb⟩)
  refine (zpos_any _ _ _ (-1) _ (SignIs.big _ p x ex (by have := HX.out; omega) _ hB)).mono ?_
  rintro e w2 ⟨rfl, hb2⟩
  rw [show decide ((0 : Int) < -1) = false from rfl]
  go_wp2
  go_ret
  exact ⟨rfl, hb.trans (hb2.mono hb.size)⟩
set_option maxHeartbeats 2000000 in
theorem law_small (x ex : Int) (h1 : -9223372036854775808 < x) (h2 : x ≤ 9223372036854775807) (w : World) :
    Calls Try.prog 3 #[.int .i64 x, .int .i32 ex] w fun e w' => e = .returned (.bool true) ∧ Below w.heap.size w w' := by
  have hq : (x == -9223372036854775808) = false := by simp; omega
  have hn : IntKind.i64.wrap (-x) = -x := by simp [IntKind.wrap, IntKind.bits, IntKind.signed]; omega
  have hm : decide (0 < -x) = decide (x < 0) := by congr 1; simp
  go_enter Try.func3, Try.ntmps3
  go_wp2_with (go_at_call 5; refine (zexact_small x ex h1 h2 _).mono ?_; rintro e w1 ⟨rfl, hb⟩)
  refine (zpos_any _ _ _ (sg x) _ (SignIs.small _ x ex)).mono ?_
  rintro e w2 ⟨rfl, hb2⟩
  rw [sg_pos]
  have hbt := hb.trans (hb2.mono hb.size)
  clear hb hb2
  go_wp2_with (go_at_call 5; refine (zexact_small (-x) ex (by omega) (by omega) _).mono ?_; rintro e w1 ⟨rfl, hb⟩)
  refine (zpos_any _ _ _ (sg (-x)) _ (SignIs.small _ (-x) ex)).mono ?_
  rintro e w4 ⟨rfl, hb2⟩
  rw [sg_pos, hm]
  have hbt2 := hbt.trans ((hb.trans (hb2.mono hb.size)).mono hbt.size)
  clear hb hb2
  go_wp2
  go_ret
  exact ⟨rfl, hbt2⟩
theorem law (x ex : Int) (h1 : -9223372036854775808 ≤ x) (h2 : x ≤ 9223372036854775807) (w : World) :
    Calls Try.prog 3 #[.int .i64 x, .int .i32 ex] w fun e w' => e = .returned (.bool true) ∧ Below w.heap.size w w' := by
  by_cases h : x = -9223372036854775808
  · exact law_min x ex h w
  · exact law_small x ex (by omega) h2 w
end Go.Proofs.Qxb6613723a.Pos
