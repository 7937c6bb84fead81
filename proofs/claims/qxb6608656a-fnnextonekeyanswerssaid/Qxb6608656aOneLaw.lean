import Derived.Test.Qxb6608656aOneA
namespace Go.Proofs.Qxb6608656a.Nx
open Go.RowKit
set_option linter.unusedSimpArgs false
set_option linter.unusedVariables false

theorem cellA {w : World} {g j : Nat} {v : Value} (h : w.cell? ⟨g, j, none⟩ = some v) (x : Obj) : (w.alloc x).cell? ⟨g, j, none⟩ = some v := (World.cell?_alloc_lt _ _ _ (World.block_lt_of_cell? _ _ h)).trans h
theorem cellB {w w' : World} {g j : Nat} {v : Value} (h : w.cell? ⟨g, j, none⟩ = some v) (hb : Below w.heap.size w w') : w'.cell? ⟨g, j, none⟩ = some v := (hb.cell (World.block_lt_of_cell? _ _ h)).trans h
theorem not_both {a b c : List UInt8} (h1 : (a == b) = true) (h2 : (b == c) = false) : (a == c) = false := by
  have e : a = b := by simpa using h1
  subst e; exact h2

set_option maxRecDepth 100000 in
set_option maxHeartbeats 4000000 in
theorem one_any (t1 t2 : Int) (a0 a1 a2 : Option Addr) (n m l c0 c1 c2 : Nat) (ss vs us : List ByteArray) (k1 k2 : ByteArray) (w : World) (hn : ss.length = n) (hm : vs.length = m) (hl : us.length = l) (hS : StrsAt w a0 ss) (hV : StrsAt w a1 vs) (hU : StrsAt w a2 us)
    (hn0 : n ≤ maxLen) (hm0 : m ≤ maxLen) (hl0 : l ≤ maxLen) (h1 : k1.size ≤ maxLen) (h2 : k2.size ≤ maxLen) :
    Calls Try.prog 4 #[.int .i8 t1, .int .i8 t2, .slice a0 n c0, .slice a1 m c1, .slice a2 l c2, .string k1, .string k2] w fun e w' => e = .returned (.bool true) ∧ Below w.heap.size w w' := by
  go_enter Try.func4, Try.ntmps4
  go_wp2_with (go_at_call 10; refine (bytesOne_any t1 t2 a0 a1 a2 n m l c0 c1 c2 ss vs us k1 k2 _ hn hm hl hS hV hU hn0 hm0 hl0 h1 h2).mono ?_; rintro e w' ⟨⟨b, rfl⟩, rfl⟩)
  · go_ret
    exact ⟨rfl, Below.refl _ _⟩
  refine (fit_any a0 n c0 ss _ _ hn hS (by omega) (by omega) hn0).mono ?_
  rintro e w' ⟨⟨r1, rfl, r1a, r1b, r1c⟩, rfl⟩
  go_wp2_with fail
  refine (fit_any a1 m c1 vs _ _ hm hV r1a (by omega) hm0).mono ?_
  rintro e w' ⟨⟨r2, rfl, r2a, r2b, r2c⟩, rfl⟩
  go_wp2_with fail
  refine (fit_any a2 l c2 us _ _ hl hU r2a (by omega) hl0).mono ?_
  rintro e w' ⟨⟨r3, rfl, r3a, r3b, r3c⟩, rfl⟩
  unfold maxLen at h1 h2
  by_cases hr : r3 < 0
  · go_wp2
    all_goals
      go_ret
      exact ⟨rfl, Below.refl _ _⟩
  have hN : 16 * (n : Int) ≤ 1048576 := by omega
  have hM : 16 * (m : Int) ≤ 1048576 := by omega
  have hL : 16 * (l : Int) ≤ 1048576 := by omega
  have hr3 : r3 ≤ 1048576 := by omega
  clear r1a r1b r1c r2a r2b r2c r3a r3b r3c
  by_cases hk1 : r3 < (k1.size : Int)
  · go_wp2
    all_goals
      go_ret
      exact ⟨rfl, Below.refl _ _⟩
  by_cases hk2 : r3 - (k1.size : Int) < (k2.size : Int)
  · go_wp2
    all_goals
      go_ret
      exact ⟨rfl, Below.refl _ _⟩
  go_wp2_with fail
  refine (headers_any a0 a1 n m c0 c1 ss vs _ hn hm (by omega) (by omega) hS hV).mono ?_
  rintro e w1 ⟨rfl, hK1, hb1, hz1⟩
  go_wp2_with (go_at_call 8; refine (reader_any _ _ _ _ _).mono ?_; rintro e w' ⟨rfl, rfl⟩)
  have hbA := hb1.alloc (Nat.le_of_lt hz1) (.cells #[.int .i8 t1, .slice (some ⟨w.heap.size, 0, none⟩) n n] 36)
  refine (headers_any a0 a2 n l c0 c2 ss us _ hn hl (by omega) (by omega) (hS.below hbA) (hU.below hbA)).mono ?_
  rintro e w2 ⟨rfl, hK2, hb2, hz2⟩
  simp only [World.size_alloc] at hK2 hz2
  have hbB : Below w.heap.size w w2 := hbA.trans (hb2.mono (by simp; omega))
  have R1 : w2.cell? ⟨w1.heap.size, 1, none⟩ = some (.slice (some ⟨w.heap.size, 0, none⟩) n n) := cellB (by simp [go_sem]) hb2
  have HB : Hid (∀ x, Below w.heap.size w (w2.alloc x)) := fun x => hbB.alloc hbB.size x
  have hS2 := hS.below hbB
  by_cases hn1 : 0 < n
  · obtain ⟨b', o, rfl, hcs⟩ := hS2 (by omega)
    obtain ⟨s0, hs0⟩ : ∃ s, s = ss.getD 0 ByteArray.empty := ⟨_, rfl⟩
    have e0 : w2.cell? ⟨b', o, none⟩ = some (.string s0) := by rw [hs0]; exact hcs 0 (by omega)
    have f1 : w2.cell? ⟨w.heap.size, 0, none⟩ = some (.string s0) := by
      rw [hs0]; exact cellB (cellA (by simpa using hK1 0 (by omega)) _) hb2
    have f2 : w2.cell? ⟨w1.heap.size + 1, 0, none⟩ = some (.string s0) := by rw [hs0]; simpa using hK2 0 (by omega)
    have E0 := cellA e0
    have i1 : (0 : Int) < (n : Int) := by omega
    have hne : ((n : Int) == 0) = false := by simp; omega
    clear hs0 hcs hK1 hK2 hb1 hb2 hbA hbB hS hV hU
    go_wp2_with (go_at_call 8; refine (reader_any _ _ _ _ _).mono ?_; rintro e w' ⟨rfl, rfl⟩)
    refine (nextZ_some w1.heap.size w.heap.size 0 n n s0 k1 _ (cellA R1 _) hn1 (cellA f1 _) (by omega)).mono ?_
    rintro e w' ⟨rfl, rfl⟩
    go_wp2_with fail
    refine (nextZ_some w2.heap.size (w1.heap.size + 1) 0 n n s0 k1 _ (by simp [go_sem]) hn1 (cellA f2 _) (by omega)).mono ?_
    rintro e w' ⟨rfl, rfl⟩
    go_wp2_with fail
    refine (nextZ_some w1.heap.size w.heap.size 0 n n s0 s0 _ (cellA R1 _) hn1 (cellA f1 _) (by omega)).mono ?_
    rintro e w' ⟨rfl, rfl⟩
    by_cases g2 : (k1.toList == k2.toList) = true
    · go_wp2
      all_goals
        go_ret
        exact ⟨rfl, HB.out _⟩
    · have g2' : (k1.toList == k2.toList) = false := by simpa using g2
      by_cases g1 : (s0.toList == k1.toList) = true
      · have g3 := not_both g1 g2'
        clear g2
        go_wp2_with fail
        refine (nextZ_some w1.heap.size w.heap.size 0 n n s0 k2 _ (cellA R1 _) hn1 (cellA f1 _) (by omega)).mono ?_
        rintro e w' ⟨rfl, rfl⟩
        go_wp2
        go_ret
        exact ⟨rfl, HB.out _⟩
      · have g1' : (s0.toList == k1.toList) = false := by simpa using g1
        clear g1 g2
        go_wp2
        go_ret
        exact ⟨rfl, HB.out _⟩
  · obtain rfl : n = 0 := by omega
    clear hK1 hK2 hb1 hb2 hbA hbB hS hV hU hS2
    go_wp2_with (go_at_call 8; refine (reader_any _ _ _ _ _).mono ?_; rintro e w' ⟨rfl, rfl⟩)
    refine (nextZ_none w1.heap.size _ _ k1 _ (cellA R1 _)).mono ?_
    rintro e w' ⟨rfl, rfl⟩
    go_wp2_with fail
    refine (nextZ_none w2.heap.size (some ⟨w1.heap.size + 1, 0, none⟩) 0 k1 _ (by simp [go_sem])).mono ?_
    rintro e w' ⟨rfl, rfl⟩
    go_wp2_with fail
    refine (nextZ_none w1.heap.size _ _ k2 _ (cellA R1 _)).mono ?_
    rintro e w' ⟨rfl, rfl⟩
    go_wp2
    go_ret
    exact ⟨rfl, HB.out _⟩
end Go.Proofs.Qxb6608656a.Nx
