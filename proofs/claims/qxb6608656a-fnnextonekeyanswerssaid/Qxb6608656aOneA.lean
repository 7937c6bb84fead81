import Derived.Test.Qxb6608656aNxB
namespace Go.Proofs.Qxb6608656a.Nx
open Go.RowKit
set_option linter.unusedSimpArgs false
set_option linter.unusedVariables false

set_option maxRecDepth 100000 in
set_option maxHeartbeats 4000000 in
theorem bytesOne_any (t1 t2 : Int) (a0 a1 a2 : Option Addr) (n m l c0 c1 c2 : Nat) (ss vs us : List ByteArray) (k1 k2 : ByteArray) (w : World) (hn : ss.length = n) (hm : vs.length = m) (hl : us.length = l) (hS : StrsAt w a0 ss) (hV : StrsAt w a1 vs) (hU : StrsAt w a2 us)
    (hn0 : n ≤ maxLen) (hm0 : m ≤ maxLen) (hl0 : l ≤ maxLen) (h1 : k1.size ≤ maxLen) (h2 : k2.size ≤ maxLen) :
    Calls Try.prog 10 #[.int .i8 t1, .int .i8 t2, .slice a0 n c0, .slice a1 m c1, .slice a2 l c2, .string k1, .string k2] w fun e w' => SomeBool e ∧ w = w' := by
  unfold maxLen at hn0 hm0 hl0 h1 h2
  by_cases hbig : (1048576 : Int) < (n : Int)
  · go_enter Try.func10, Try.ntmps10
    go_wp2
    go_ret
    exact ⟨⟨_, rfl⟩, rfl⟩
  go_enter Try.func10, Try.ntmps10
  go_wp2
  go_loop [15, 16] (fun z i => ∃ (k : Nat) (y : Int), k ≤ n ∧ i = .int .i64 k ∧ 0 ≤ y ∧ y ≤ 1048576 ∧ z = .int .i64 y) (fun _ i => n - (intOf i).toNat)
  case atStart => exact ⟨0, _, Nat.zero_le _, rfl, by omega, by omega, rfl⟩
  case round =>
    obtain ⟨ka, ya, hka, rfl, hya0, hya1, rfl⟩ := hrel
    by_cases hltka : ka < n
    · obtain ⟨b, o, rfl, hcs⟩ := hS (by omega)
      have hs := hcs ka (by omega)
      clear hcs hS hV hU
      go_wp2
      all_goals first
        | (go_round
           case rel => exact ⟨ka + 1, _, by omega, by go_num, by omega, by omega, rfl⟩
           case measure => simp [intOf]; omega)
        | (go_ret
           exact ⟨⟨_, rfl⟩, rfl⟩)
    · clear hS
      go_wp2
      all_goals try
        (go_ret
         exact ⟨⟨_, rfl⟩, rfl⟩)
      go_loop [15, 17] (fun z i => ∃ (k : Nat) (y : Int), k ≤ m ∧ i = .int .i64 k ∧ 0 ≤ y ∧ y ≤ 1048576 ∧ z = .int .i64 y) (fun _ i => m - (intOf i).toNat)
      case atStart => exact ⟨0, _, Nat.zero_le _, rfl, by omega, by omega, rfl⟩
      case round =>
        obtain ⟨kb, yb, hkb, rfl, hyb0, hyb1, rfl⟩ := hrel
        by_cases hltkb : kb < m
        · obtain ⟨b, o, rfl, hcs⟩ := hV (by omega)
          have hs := hcs kb (by omega)
          clear hcs hV hU
          go_wp2
          all_goals first
            | (go_round
               case rel => exact ⟨kb + 1, _, by omega, by go_num, by omega, by omega, rfl⟩
               case measure => simp [intOf]; omega)
            | (go_ret
               exact ⟨⟨_, rfl⟩, rfl⟩)
        · clear hV
          go_wp2
          all_goals try
            (go_ret
             exact ⟨⟨_, rfl⟩, rfl⟩)
          go_loop [15, 18] (fun z i => ∃ (k : Nat) (y : Int), k ≤ l ∧ i = .int .i64 k ∧ 0 ≤ y ∧ y ≤ 1048576 ∧ z = .int .i64 y) (fun _ i => l - (intOf i).toNat)
          case atStart => exact ⟨0, _, Nat.zero_le _, rfl, by omega, by omega, rfl⟩
          case round =>
            obtain ⟨kc, yc, hkc, rfl, hyc0, hyc1, rfl⟩ := hrel
            by_cases hltkc : kc < l
            · obtain ⟨b, o, rfl, hcs⟩ := hU (by omega)
              have hs := hcs kc (by omega)
              clear hcs hU
              go_wp2
              all_goals first
                | (go_round
                   case rel => exact ⟨kc + 1, _, by omega, by go_num, by omega, by omega, rfl⟩
                   case measure => simp [intOf]; omega)
                | (go_ret
                   exact ⟨⟨_, rfl⟩, rfl⟩)
            · clear hU
              go_wp2
              all_goals
                go_ret
                exact ⟨⟨_, rfl⟩, rfl⟩
end Go.Proofs.Qxb6608656a.Nx
