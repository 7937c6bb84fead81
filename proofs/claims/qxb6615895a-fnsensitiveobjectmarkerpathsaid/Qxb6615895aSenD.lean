import Derived.Test.Qxb6615895aSenC
namespace Go.Proofs.Qxb6615895a.Sen
open Go.RowKit
set_option linter.unusedSimpArgs false
set_option linter.unusedVariables false

/-- It returned a bool. -/
def SomeBool (e : Ending) : Prop := ∃ b, e = .returned (.bool b)

set_option maxHeartbeats 2000000 in
theorem bytes_any (a0 a1 : Option Addr) (n m c0 c1 : Nat) (ss : List ByteArray) (nm nm2 : ByteArray) (ix ix2 : Int) (b1 b2 : Bool) (w : World) (hn : ss.length = n) (hS : StrsAt w a0 ss)
    (hn0 : n ≤ maxLen) (hm0 : m ≤ maxLen) (h1 : nm.size ≤ maxLen) (h2 : nm2.size ≤ maxLen) :
    Calls Try.prog 6 #[.slice a0 n c0, .slice a1 m c1, .string nm, .int .i64 ix, .bool b1, .string nm2, .int .i64 ix2, .bool b2] w fun e w' => SomeBool e ∧ w = w' := by
  unfold maxLen at hn0 hm0 h1 h2
  by_cases hbig : (1048576 : Int) < (n : Int)
  · go_enter Try.func6, Try.ntmps6
    go_wp2
    go_ret
    exact ⟨⟨_, rfl⟩, rfl⟩
  go_enter Try.func6, Try.ntmps6
  go_wp2
  go_loop [17, 18] (fun z i => ∃ (k : Nat) (y : Int), k ≤ n ∧ i = .int .i64 k ∧ 0 ≤ y ∧ y ≤ 1048576 ∧ z = .int .i64 y) (fun _ i => n - (intOf i).toNat)
  case atStart => exact ⟨0, _, Nat.zero_le _, rfl, by omega, by omega, rfl⟩
  case round =>
    obtain ⟨k, y, hk, rfl, hy0, hy1, rfl⟩ := hrel
    by_cases hlt : k < n
    · obtain ⟨b, o, rfl, hcs⟩ := hS (by omega)
      have hs := hcs k (by omega)
      clear hcs hS
      go_wp2
      all_goals first
        | (go_round
           case rel => exact ⟨k + 1, _, by omega, by go_num, by omega, by omega, rfl⟩
           case measure => simp [intOf]; omega)
        | (go_ret
           exact ⟨⟨_, rfl⟩, rfl⟩)
    · clear hS
      go_wp2
      all_goals
        go_ret
        exact ⟨⟨_, rfl⟩, rfl⟩
end Go.Proofs.Qxb6615895a.Sen
