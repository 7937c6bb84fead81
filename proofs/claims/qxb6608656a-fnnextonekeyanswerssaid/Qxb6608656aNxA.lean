import Derived.Test.Qxb6608656aRows
import Derived.WalkKit
import Derived.WalkSpells
import Derived.WalkLawsBesides
import Derived.LoopTactic
import Derived.Deep.DeepCutAuto
import Derived.RowKit3
namespace Go.Proofs.Qxb6608656a.Nx
open Go.RowKit
set_option linter.unusedSimpArgs false
set_option linter.unusedVariables false

theorem info34 : (Try.prog.info? 34).map (fun i => (i.zero, i.size, i.bytes)) = some (some (.agg #[.string ByteArray.empty, .string ByteArray.empty]), 2, 32) := by kernel_rfl

/-- A slice of strings, as it lies in memory. -/
def StrsAt (w : World) (a : Option Addr) (ss : List ByteArray) : Prop :=
  0 < ss.length → ∃ b o, a = some ⟨b, o, none⟩ ∧ ∀ i, i < ss.length → w.cell? ⟨b, o + i, none⟩ = some (.string (ss.getD i ByteArray.empty))
theorem StrsAt.below {w w' : World} {a : Option Addr} {ss : List ByteArray} (h : StrsAt w a ss) (hb : Below w.heap.size w w') : StrsAt w' a ss := fun h0 => by
  obtain ⟨b, o, ha, hc⟩ := h h0
  refine ⟨b, o, ha, fun i hi => ?_⟩
  have hg : b < w.heap.size := World.block_lt_of_cell? _ _ (hc i hi)
  exact (hb.cell (by exact hg)).trans (hc i hi)

/-- It returned a bool. -/
def SomeBool (e : Ending) : Prop := ∃ b, e = .returned (.bool b)

/-- What zzFitStrings hands back: not above the budget; where it is not negative the budget paid for n headers. -/
def FitEnd (n : Nat) (bud : Int) (e : Ending) : Prop := ∃ r : Int, e = .returned (.int .i64 r) ∧ -1 ≤ r ∧ (r ≤ bud ∨ r = -1) ∧ (0 ≤ r → 16 * (n : Int) ≤ bud)

set_option maxHeartbeats 1000000 in
theorem fit_any (a : Option Addr) (n c : Nat) (ss : List ByteArray) (bud : Int) (w : World) (hn : ss.length = n) (hS : StrsAt w a ss) (h1 : -1 ≤ bud) (h2 : bud ≤ 1048576) (hn0 : n ≤ maxLen) :
    Calls Try.prog 6 #[.slice a n c, .int .i64 bud] w fun e w' => FitEnd n bud e ∧ w = w' := by
  unfold maxLen at hn0
  by_cases hneg : bud < 0
  · go_enter Try.func6, Try.ntmps6
    go_wp2
    all_goals
      go_ret
      exact ⟨⟨-1, rfl, by omega, Or.inr rfl, fun h => by omega⟩, rfl⟩
  by_cases hbig : bud / 16 < (n : Int)
  · go_enter Try.func6, Try.ntmps6
    go_wp2
    go_ret
    exact ⟨⟨-1, rfl, by omega, Or.inr rfl, fun h => by omega⟩, rfl⟩
  have hnb : 16 * (n : Int) ≤ bud := by omega
  go_enter Try.func6, Try.ntmps6
  go_wp2
  go_loop [1, 5] (fun z i => ∃ (k : Nat) (y : Int), k ≤ n ∧ i = .int .i64 k ∧ 0 ≤ y ∧ y ≤ bud ∧ z = .int .i64 y) (fun _ i => n - (intOf i).toNat)
  case atStart => exact ⟨0, _, Nat.zero_le _, rfl, by omega, by omega, rfl⟩
  case round =>
    obtain ⟨k, y, hk, rfl, hy0, hy1, rfl⟩ := hrel
    by_cases hlt : k < n
    · obtain ⟨b, o, rfl, hcs⟩ := hS (by omega)
      have hs := hcs k (by omega)
      clear hcs hS
      go_wp2
      all_goals first
        | (go_round
           case rel => exact ⟨k + 1, _, by omega, by go_num, by omega, by omega, rfl⟩
           case measure => simp [intOf]; omega)
        | (go_ret
           exact ⟨⟨-1, rfl, by omega, Or.inr rfl, fun h => by omega⟩, rfl⟩)
    · clear hS
      go_wp2
      go_ret
      exact ⟨⟨y, rfl, by omega, Or.inl hy1, fun h => hnb⟩, rfl⟩

set_option maxHeartbeats 400000 in
theorem reader_any (t : Int) (a : Option Addr) (n c : Nat) (w : World) :
    Calls Try.prog 8 #[.int .i8 t, .slice a n c] w fun e w' => e = .returned (.pointer (some ⟨w.heap.size, 0, none⟩)) ∧ w.alloc (.cells #[.int .i8 t, .slice a n c] 36) = w' := by
  go_enter Try.func8, Try.ntmps8
  go_wp2
  go_ret
  exact ⟨rfl, rfl⟩

set_option maxHeartbeats 400000 in
theorem next_none (p : Nat) (a : Option Addr) (c : Nat) (key : ByteArray) (w : World) (h1 : w.cell? ⟨p, 1, none⟩ = some (.slice a 0 c)) :
    Calls Try.prog 11 #[.pointer (some ⟨p, 0, none⟩), .string key] w fun e w' => e = .returned (.bool false) ∧ w = w' := by
  go_enter Try.func11, Try.ntmps11
  go_wp2
  go_ret
  exact ⟨rfl, rfl⟩

set_option maxHeartbeats 400000 in
theorem next_some (p g off n c : Nat) (s key : ByteArray) (w : World) (h1 : w.cell? ⟨p, 1, none⟩ = some (.slice (some ⟨g, off, none⟩) n c)) (hn : 0 < n) (h2 : w.cell? ⟨g, off, none⟩ = some (.string s)) (hm : n ≤ 1048576) :
    Calls Try.prog 11 #[.pointer (some ⟨p, 0, none⟩), .string key] w fun e w' => e = .returned (.bool (s.toList == key.toList)) ∧ w = w' := by
  have hi : (0 : Int) < (n : Int) := by omega
  go_enter Try.func11, Try.ntmps11
  go_wp2
  go_ret
  exact ⟨rfl, rfl⟩

set_option maxHeartbeats 400000 in
theorem nextZ_none (p : Nat) (a : Option Addr) (c : Nat) (key : ByteArray) (w : World) (h1 : w.cell? ⟨p, 1, none⟩ = some (.slice a 0 c)) :
    Calls Try.prog 9 #[.pointer (some ⟨p, 0, none⟩), .string key] w fun e w' => e = .returned (.bool false) ∧ w = w' := by
  go_enter Try.func9, Try.ntmps9
  go_wp2_with (go_at_call 11; refine (next_none p a c key _ h1).mono ?_; rintro e w' ⟨rfl, rfl⟩)
  go_ret
  exact ⟨rfl, rfl⟩
set_option maxHeartbeats 400000 in
theorem nextZ_some (p g off n c : Nat) (s key : ByteArray) (w : World) (h1 : w.cell? ⟨p, 1, none⟩ = some (.slice (some ⟨g, off, none⟩) n c)) (hn : 0 < n) (h2 : w.cell? ⟨g, off, none⟩ = some (.string s)) (hm : n ≤ 1048576) :
    Calls Try.prog 9 #[.pointer (some ⟨p, 0, none⟩), .string key] w fun e w' => e = .returned (.bool (s.toList == key.toList)) ∧ w = w' := by
  go_enter Try.func9, Try.ntmps9
  go_wp2_with (go_at_call 11; refine (next_some p g off n c s key _ h1 hn h2 hm).mono ?_; rintro e w' ⟨rfl, rfl⟩)
  go_ret
  exact ⟨rfl, rfl⟩
end Go.Proofs.Qxb6608656a.Nx
