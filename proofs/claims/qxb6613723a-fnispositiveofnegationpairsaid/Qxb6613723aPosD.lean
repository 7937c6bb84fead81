import Derived.Test.Qxb6613723aPosC
namespace Go.Proofs.Qxb6613723a.Pos
open Go.RowKit
set_option linter.unusedSimpArgs false
set_option linter.unusedVariables false
attribute [local go_sem ↓] Go.wp_at_zero Go.wp_at_succ

set_option maxHeartbeats 2000000 in
theorem exact_min (q : Nat) (x ex : Int) (B : Nat) (hx : x = -9223372036854775808) (w : World) (hB : BigAt B w q x) (hpl : Plain w q) :
    Calls Try.prog 7 #[.agg #[.pointer (some ⟨q, 0, none⟩), .int .i32 ex]] w fun e w' => ∃ p, e = .returned (.agg #[.int .i64 0, .int .i32 ex, .pointer (some ⟨p, 0, none⟩)]) ∧ BigAt w.heap.size w' p x ∧ Below w.heap.size w w' := by
  have hmin : (x != -9223372036854775808) = false := by simp [hx]
  have h1 : -9223372036854775808 ≤ x := by omega
  have h2 : x ≤ 9223372036854775807 := by omega
  have HX : Hid (x = -9223372036854775808) := hx
  clear hx
  have hA : ∀ o1 o2, Below w.heap.size w ((w.alloc o1).alloc o2) := fun o1 o2 => ((Below.refl _ _).alloc (Nat.le_refl _) _).alloc (by simp) _
  have hB2 : ∀ o1 o2, BigAt B ((w.alloc o1).alloc o2) q x := fun o1 o2 => hB.below (hA o1 o2)
  have hP2 : ∀ o1 o2, Plain ((w.alloc o1).alloc o2) q := fun o1 o2 => hpl.below (hA o1 o2)
  have HB2 : Hid (∀ o1 o2, BigAt B ((w.alloc o1).alloc o2) q x) := hB2
  have HP2 : Hid (∀ o1 o2, Plain ((w.alloc o1).alloc o2) q) := hP2
  have HA : Hid (∀ o1 o2, Below w.heap.size w ((w.alloc o1).alloc o2)) := hA
  clear hA hB2 hP2 hB hpl
  go_enter Try.func7, Try.ntmps7
  go_wp2_with (go_at_call 11; refine (coef_any q x ex B _ (HB2.out _ _) (HP2.out _ _)).mono ?_; rintro e w' ⟨p, rfl, hBp, hb⟩; have hz : w.heap.size + 1 < w'.heap.size := (by have := hb.size; simp at this; omega))
  refine (is64_any p x (by omega) h2 _ _ hBp).mono ?_
  rintro e w'' ⟨rfl, rfl⟩
  go_wp2_with fail
  refine (int64_any p x (by omega) h2 _ _ hBp).mono ?_
  rintro e w'' ⟨rfl, rfl⟩
  have hz0 : w.heap.size < w'.heap.size := by omega
  obtain ⟨ha, hbb, hff⟩ := two_new hb
  have q0 := ha 0; have q1 := ha 1; have r0 := hbb 0; have r1 := hbb 1; have r2 := hbb 2
  have f0 := hff 0; have f1 := hff 1; have f2 := hff 2
  simp at q0 q1 r0 r1 r2
  clear ha hbb hff
  go_wp2_with (go_at_call 14; refine (exp_at _ _ _).mono ?_; rintro e w'' ⟨rfl, rfl⟩)
  refine bodyPost_ret (v := .agg #[.int .i64 0, .int .i32 ex, .pointer (some ⟨p, 0, none⟩)]) (by simp [results, Try.results7, go_sem, World.cell?_alloc_past, *]) rfl ⟨p, rfl, ?_, ?_⟩
  · have hg : w.heap.size + 1 < ((w.alloc (.cells #[.pointer (some ⟨q, 0, none⟩), .int .i32 ex] 30)).alloc (.cells #[.int .i64 0, .int .i32 0, .pointer none] 25)).heap.size := by simp
    have h3 := ((hBp.store (g := w.heap.size + 1) (j := 0) hg (.int .i64 0)).store (g := w.heap.size + 1) (j := 1) hg (.int .i32 ex)).store (g := w.heap.size + 1) (j := 2) hg (.pointer (some ⟨p, 0, none⟩))
    exact (h3.below ((Below.refl _ _).alloc (Nat.le_refl _) _)).lower (by simp; omega)
  · have h0 : Below w.heap.size w w' := (HA.out _ _).trans (hb.mono (by simp; omega))
    with_reducible repeat (first | exact h0 | refine Below.drew ?_ | refine Below.setCell ?_ (by simp) _ | refine Below.alloc ?_ (by simp; omega) _)


end Go.Proofs.Qxb6613723a.Pos
