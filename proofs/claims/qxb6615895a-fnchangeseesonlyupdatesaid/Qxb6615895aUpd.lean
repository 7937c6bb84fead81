import Derived.Test.Qxb6615895aRows
import Derived.WalkKit
import Derived.WalkSpells
import Derived.WalkLawsBesides
import Derived.StillTactics
import Derived.Laws.Pointers
import Derived.Deep.RegionHeld3
import Derived.Deep.DrawnRows
import Derived.RowKit3
namespace Go.Proofs.Qxb6615895a
open Go.RowKit
attribute [local go_sem ↓] Go.wp_at_zero Go.wp_at_succ

set_option maxHeartbeats 400000 in
theorem change_any (c0 c2 c3 c4 c5 c6 c7 c8 c9 c10 c11 c12 : Value) (u : Int) (w : World) :
    Calls Try.prog 12 #[.agg #[c0, .int .i64 u, c2, c3, c4, c5, c6, c7, c8, c9, c10, c11, c12]] w fun e w' =>
      e = .returned (.int .i64 u) ∧ w' = w.alloc (.cells #[c0, .int .i64 u, c2, c3, c4, c5, c6, c7, c8, c9, c10, c11, c12] 36) := by
  go_enter Try.func12, Try.ntmps12
  go_wp2
  go_ret
  exact ⟨rfl, rfl⟩

set_option maxHeartbeats 400000 in
theorem summary_any (c0 c1 c2 c3 c4 c5 c6 c7 c8 c9 c10 : Int) (c11 : Bool) (w : World) :
    Calls Try.prog 11 #[.agg #[.int .i64 c0, .int .i64 c1, .int .i64 c2, .int .i64 c3, .int .i64 c4, .int .i64 c5, .int .i64 c6, .int .i64 c7, .int .i64 c8, .int .i64 c9, .int .i64 c10, .bool c11]] w fun e w' =>
      e = .returned (.agg #[.int .i64 c0, .int .i64 c1, .int .i64 c2, .int .i64 c3, .int .i64 c4, .int .i64 c5, .int .i64 c6, .int .i64 c7, .int .i64 c8, .int .i64 c9, .int .i64 c10, .pointer none, .bool c11]) ∧ 
      ∃ o1 o2, w' = (w.alloc (.cells o1 33)).alloc (.cells o2 36) := by
  go_enter Try.func11, Try.ntmps11
  go_wp2
  simp [bodyPost, results, Try.results11, go_sem]
  exact ⟨_, _, rfl⟩

set_option maxHeartbeats 400000 in
theorem add_any (c0 c1 c2 c3 c4 c5 c6 c7 c8 c9 c10 : Int) (c11 : Value) (c12 : Value) (w : World) :
    Calls Try.prog 18 #[.agg #[.int .i64 c0, .int .i64 c1, .int .i64 c2, .int .i64 c3, .int .i64 c4, .int .i64 c5, .int .i64 c6, .int .i64 c7, .int .i64 c8, .int .i64 c9, .int .i64 c10, c11, c12]] w fun e w' =>
      e = .returned (.int .i64 (wrap64 (wrap64 (c0 + c2) + c7))) ∧ ∃ o1, w' = w.alloc (.cells o1 36) := by
  go_enter Try.func18, Try.ntmps18
  go_wp2
  go_ret
  exact ⟨rfl, _, rfl⟩

set_option maxHeartbeats 400000 in
theorem destroy_any (c0 c1 c2 c3 c4 c5 c6 c7 c8 c9 c10 : Int) (c11 : Value) (c12 : Value) (w : World) :
    Calls Try.prog 19 #[.agg #[.int .i64 c0, .int .i64 c1, .int .i64 c2, .int .i64 c3, .int .i64 c4, .int .i64 c5, .int .i64 c6, .int .i64 c7, .int .i64 c8, .int .i64 c9, .int .i64 c10, c11, c12]] w fun e w' =>
      e = .returned (.int .i64 (wrap64 (c3 + c2))) ∧ ∃ o1, w' = w.alloc (.cells o1 36) := by
  go_enter Try.func19, Try.ntmps19
  go_wp2
  go_ret
  exact ⟨rfl, _, rfl⟩

set_option maxHeartbeats 4000000 in
theorem figures_any (c0 c1 c2 c3 c4 c5 c6 c7 c8 c9 c10 : Int) (c11 : Value) (c12 : Value) (w : World) :
    Calls Try.prog 13 #[.agg #[.int .i64 c0, .int .i64 c1, .int .i64 c2, .int .i64 c3, .int .i64 c4, .int .i64 c5, .int .i64 c6, .int .i64 c7, .int .i64 c8, .int .i64 c9, .int .i64 c10, c11, c12]] w fun e w' =>
      ∃ o1 o2 o3 o4, e = .returned (.slice (some ⟨w.heap.size + 1 + 1 + 1 + 1, 0, none⟩) 5 5) ∧ w' = ((((((w.alloc (.cells o1 36)).alloc (.cells o2 36)).alloc (.cells o3 36)).alloc (.cells o4 36))).alloc (.cells #[.string ⟨#[105, 109, 112, 111, 114, 116]⟩, .int .i64 c9, .bool true, .string ⟨#[97, 100, 100]⟩, .int .i64 (wrap64 (wrap64 (c0 + c2) + c7)), .bool false, .string ⟨#[99, 104, 97, 110, 103, 101]⟩, .int .i64 c1, .bool false, .string ⟨#[100, 101, 115, 116, 114, 111, 121]⟩, .int .i64 (wrap64 (c3 + c2)), .bool false, .string ⟨#[102, 111, 114, 103, 101, 116]⟩, .int .i64 c6, .bool true] 42)).drew := by
  go_enter Try.func13, Try.ntmps13
  go_wp2
  go_region_held3 (fun w' => w'.cell? ⟨w.heap.size, 0, none⟩ = some (.int .i64 c0) ∧ w'.cell? ⟨w.heap.size, 1, none⟩ = some (.int .i64 c1) ∧ w'.cell? ⟨w.heap.size, 2, none⟩ = some (.int .i64 c2) ∧ w'.cell? ⟨w.heap.size, 3, none⟩ = some (.int .i64 c3) ∧ w'.cell? ⟨w.heap.size, 4, none⟩ = some (.int .i64 c4) ∧ w'.cell? ⟨w.heap.size, 5, none⟩ = some (.int .i64 c5) ∧ w'.cell? ⟨w.heap.size, 6, none⟩ = some (.int .i64 c6) ∧ w'.cell? ⟨w.heap.size, 7, none⟩ = some (.int .i64 c7) ∧ w'.cell? ⟨w.heap.size, 8, none⟩ = some (.int .i64 c8) ∧ w'.cell? ⟨w.heap.size, 9, none⟩ = some (.int .i64 c9) ∧ w'.cell? ⟨w.heap.size, 10, none⟩ = some (.int .i64 c10) ∧ w'.cell? ⟨w.heap.size, 11, none⟩ = some c11 ∧ w'.cell? ⟨w.heap.size, 12, none⟩ = some c12) (simp [go_sem, World.cell?_alloc_past])
    (first
      | (go_at_call 18; refine (add_any _ _ _ _ _ _ _ _ _ _ _ _ _ _).mono ?_; rintro e w' ⟨rfl, o1, rfl⟩)
      | (go_at_call 12; refine (change_any _ _ _ _ _ _ _ _ _ _ _ _ _ _).mono ?_; rintro e w' ⟨rfl, rfl⟩)
      | (go_at_call 19; refine (destroy_any _ _ _ _ _ _ _ _ _ _ _ _ _ _).mono ?_; rintro e w' ⟨rfl, o2, rfl⟩))
  go_wp2
  go_ret
  exact ⟨_, _, _, _, rfl, rfl⟩

set_option maxHeartbeats 400000 in
theorem figureIs_yes (u : Int) (w : World) :
    Calls Try.prog 14 #[.agg #[.string ⟨#[99, 104, 97, 110, 103, 101]⟩, .int .i64 u, .bool false], .string ⟨#[99, 104, 97, 110, 103, 101]⟩, .int .i64 u, .bool false] w fun e w' =>
      e = .returned (.bool true) ∧ ∃ o1, w' = w.alloc (.cells o1 42) := by
  go_enter Try.func14, Try.ntmps14
  go_wp2
  go_ret
  exact ⟨rfl, _, rfl⟩
end Go.Proofs.Qxb6615895a
