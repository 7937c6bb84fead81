import Derived.Test.Qxb6613723aPosB
namespace Go.Proofs.Qxb6613723a.Pos
open Go.RowKit
set_option linter.unusedSimpArgs false
set_option linter.unusedVariables false
attribute [local go_sem ↓] Go.wp_at_zero Go.wp_at_succ

set_option maxHeartbeats 1000000 in
theorem exp_at (v : Option Addr) (ex : Int) (w : World) : Calls Try.prog 14 #[.agg #[.pointer v, .int .i32 ex]] w fun e w' => e = .returned (.int .i32 ex) ∧ w.alloc (.cells #[.pointer v, .int .i32 ex] 30) = w' := by
  go_enter Try.func14, Try.ntmps14
  go_wp2
  go_ret
  exact ⟨rfl, rfl⟩

theorem two_new {w w' : World} {a b : Array Value} {ta tb : TypeId} (hb : Below ((w.alloc (.cells a ta)).alloc (.cells b tb)).heap.size ((w.alloc (.cells a ta)).alloc (.cells b tb)) w') :
    (∀ j, w'.cell? ⟨w.heap.size, j, none⟩ = a[j]?) ∧ (∀ j, w'.cell? ⟨w.heap.size + 1, j, none⟩ = b[j]?) ∧ (∀ j, w'.frozen? ⟨w.heap.size + 1, j, none⟩ = false) := by
  refine ⟨fun j => (hb.cell (by simp; omega)).trans (World.cell?_alloc2_first _ _ _ _), fun j => (hb.cell (by simp)).trans (World.cell?_alloc2_new _ _ _ _), fun j => (hb.frozen (by simp)).trans (World.frozen?_alloc2_new _ _ _ _)⟩

set_option maxHeartbeats 2000000 in
theorem exact_small (q : Nat) (x ex : Int) (B : Nat) (h1 : -9223372036854775808 < x) (h2 : x ≤ 9223372036854775807) (w : World) (hB : BigAt B w q x) (hpl : Plain w q) :
    Calls Try.prog 7 #[.agg #[.pointer (some ⟨q, 0, none⟩), .int .i32 ex]] w fun e w' => e = .returned (.agg #[.int .i64 x, .int .i32 ex, .pointer none]) ∧ Below w.heap.size w w' := by
  have hmin : (x != -9223372036854775808) = true := by simp; omega
  have hA : ∀ o1 o2, Below w.heap.size w ((w.alloc o1).alloc o2) := fun o1 o2 => ((Below.refl _ _).alloc (Nat.le_refl _) _).alloc (by simp) _
  have hB2 : ∀ o1 o2, BigAt B ((w.alloc o1).alloc o2) q x := fun o1 o2 => hB.below (hA o1 o2)
  have hP2 : ∀ o1 o2, Plain ((w.alloc o1).alloc o2) q := fun o1 o2 => hpl.below (hA o1 o2)
  have HB2 : Hid (∀ o1 o2, BigAt B ((w.alloc o1).alloc o2) q x) := hB2
  have HP2 : Hid (∀ o1 o2, Plain ((w.alloc o1).alloc o2) q) := hP2
  have HA : Hid (∀ o1 o2, Below w.heap.size w ((w.alloc o1).alloc o2)) := hA
  clear hA hB2 hP2 hB hpl
  go_enter Try.func7, Try.ntmps7
  go_wp2_with (go_at_call 11; refine (coef_any q x ex B _ (HB2.out _ _) (HP2.out _ _)).mono ?_; rintro e w' ⟨p, rfl, hBp, hb⟩; have hz : w.heap.size + 1 < w'.heap.size := (by have := hb.size; simp at this; omega))
  refine (is64_any p x (by omega) h2 _ _ hBp).mono ?_
  rintro e w'' ⟨rfl, rfl⟩
  go_wp2_with fail
  refine (int64_any p x (by omega) h2 _ _ hBp).mono ?_
  rintro e w'' ⟨rfl, rfl⟩
  have hz0 : w.heap.size < w'.heap.size := by omega
  obtain ⟨ha, hbb, hff⟩ := two_new hb
  have q0 := ha 0; have q1 := ha 1; have r0 := hbb 0; have r1 := hbb 1; have r2 := hbb 2
  have f0 := hff 0; have f1 := hff 1; have f2 := hff 2
  simp at q0 q1 r0 r1 r2
  clear ha hbb hff
  go_wp2
  go_region_held3 (fun w3 => w3.cell? ⟨w.heap.size, 0, none⟩ = some (.pointer (some ⟨q, 0, none⟩)) ∧ w3.cell? ⟨w.heap.size, 1, none⟩ = some (.int .i32 ex)) (go_keep)
    (first | (go_at_call 13; refine (int64_any p x (by omega) h2 _ _ (hBp.below ((Below.refl _ _).drew))).mono ?_; rintro e w'' ⟨rfl, rfl⟩) | (go_at_call 14; refine (exp_at _ _ _).mono ?_; rintro e w'' ⟨rfl, rfl⟩))
  go_wp2
  refine bodyPost_ret (v := .agg #[.int .i64 x, .int .i32 ex, .pointer none]) (by simp [results, Try.results7, go_sem, World.cell?_alloc_past, *]) rfl ⟨rfl, ?_⟩
  have h0 : Below w.heap.size w w' := (HA.out _ _).trans (hb.mono (by simp; omega))
  with_reducible repeat (first | exact h0 | refine Below.drew ?_ | refine Below.setCell ?_ (by simp) _ | refine Below.alloc ?_ (by simp; omega) _)
end Go.Proofs.Qxb6613723a.Pos
