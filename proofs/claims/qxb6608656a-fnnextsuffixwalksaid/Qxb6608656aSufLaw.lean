import Derived.Test.Qxb6608656aNxB
namespace Go.Proofs.Qxb6608656a.Nx
open Go.RowKit
set_option linter.unusedSimpArgs false
set_option linter.unusedVariables false

theorem cell1 {w : World} {g j : Nat} {v : Value} (x : Obj) (h : w.cell? ⟨g, j, none⟩ = some v) : (w.alloc x).cell? ⟨g, j, none⟩ = some v := (World.cell?_alloc_lt _ _ _ (World.block_lt_of_cell? _ _ h)).trans h
theorem cell3 {w : World} {g j : Nat} {v : Value} (h : w.cell? ⟨g, j, none⟩ = some v) (x y z : Obj) : (((w.alloc x).alloc y).alloc z).cell? ⟨g, j, none⟩ = some v := cell1 z (cell1 y (cell1 x h))

set_option maxRecDepth 100000 in
set_option maxHeartbeats 4000000 in
theorem suf_any (t : Int) (a0 a1 : Option Addr) (n m c0 c1 : Nat) (ss vs : List ByteArray) (key : ByteArray) (ix : Int) (w : World) (hn : ss.length = n) (hm : vs.length = m) (hS : StrsAt w a0 ss) (hV : StrsAt w a1 vs)
    (hn0 : n ≤ maxLen) (hm0 : m ≤ maxLen) (h1 : key.size ≤ maxLen) :
    Calls Try.prog 3 #[.int .i8 t, .slice a0 n c0, .slice a1 m c1, .string key, .int .i64 ix] w fun e w' => e = .returned (.bool true) ∧ Below w.heap.size w w' := by
  go_enter Try.func3, Try.ntmps3
  go_wp2_with (go_at_call 5; refine (bytesSuffix_any t a0 a1 n m c0 c1 ss vs key ix _ hn hm hS hV hn0 hm0 h1).mono ?_; rintro e w' ⟨⟨b, rfl⟩, rfl⟩)
  · go_ret
    exact ⟨rfl, Below.refl _ _⟩
  refine (fit_any a0 n c0 ss _ _ hn hS (by omega) (by omega) hn0).mono ?_
  rintro e w' ⟨⟨r1, rfl, r1a, r1b, r1c⟩, rfl⟩
  go_wp2_with fail
  refine (fit_any a1 m c1 vs _ _ hm hV r1a (by omega) hm0).mono ?_
  rintro e w' ⟨⟨r2, rfl, r2a, r2b, r2c⟩, rfl⟩
  unfold maxLen at h1
  by_cases hr : r2 < 0
  · go_wp2
    all_goals
      go_ret
      exact ⟨rfl, Below.refl _ _⟩
  have hN : 16 * (n : Int) ≤ 1048576 := by omega
  have hM : 16 * (m : Int) ≤ 1048576 := by omega
  by_cases hi0 : ix < 0
  · go_wp2
    all_goals
      go_ret
      exact ⟨rfl, Below.refl _ _⟩
  by_cases hi1 : (n : Int) < ix
  · go_wp2
    all_goals
      go_ret
      exact ⟨rfl, Below.refl _ _⟩
  obtain ⟨k, rfl⟩ := Int.eq_ofNat_of_zero_le (show 0 ≤ ix by omega)
  clear r1a r1b r1c r2a r2b r2c
  go_wp2_with fail
  · go_ret
    exact ⟨rfl, Below.refl _ _⟩
  refine (headers_any a0 a1 n m c0 c1 ss vs _ hn hm (by omega) (by omega) hS hV).mono ?_
  rintro e w1 ⟨rfl, hK, hb1, hz1⟩
  have hS1 := hS.below hb1
  clear hS hV
  have hkn : k ≤ n := by omega
  have hbz : w.heap.size ≤ w1.heap.size := by omega
  have bel3 : ∀ x y z : Obj, Below w.heap.size w (((w1.alloc x).alloc y).alloc z) := fun x y z => ((hb1.alloc hbz x).alloc (by simp; omega) y).alloc (by simp; omega) z
  have HB : Hid (∀ x y z : Obj, Below w.heap.size w (((w1.alloc x).alloc y).alloc z)) := bel3
  clear bel3 hb1 hi1 hi0
  by_cases hkl : k < n
  · obtain ⟨b, o, rfl, hcs⟩ := hS1 (by omega)
    obtain ⟨s0, hs0⟩ : ∃ s, s = ss.getD 0 ByteArray.empty := ⟨_, rfl⟩
    obtain ⟨sk, hsk⟩ : ∃ s, s = ss.getD k ByteArray.empty := ⟨_, rfl⟩
    have e0 : w1.cell? ⟨b, o, none⟩ = some (.string s0) := by rw [hs0]; exact hcs 0 (by omega)
    have ek : w1.cell? ⟨b, o + k, none⟩ = some (.string sk) := by rw [hsk]; exact hcs k (by omega)
    have f0 : w1.cell? ⟨w.heap.size, 0, none⟩ = some (.string s0) := by rw [hs0]; simpa using hK 0 (by omega)
    have fk : w1.cell? ⟨w.heap.size, k * 2, none⟩ = some (.string sk) := by rw [hsk]; exact hK k hkl
    have E0 := cell3 e0
    have Ek := cell3 ek
    clear hs0 hsk hcs hK
    have i0 : (0 : Int) ≤ (k : Int) := by omega
    have i1 : (k : Int) < (n : Int) := by omega
    have i2 : (0 : Int) < (n : Int) := by omega
    by_cases hk0 : 0 < k
    · have i3 : (0 : Int) < (k : Int) := by omega
      go_wp2_with (go_at_call 8; refine (reader_any _ _ _ _ _).mono ?_; rintro e w' ⟨rfl, rfl⟩)
      refine (nextZ_some w1.heap.size w.heap.size 0 n n s0 key _ (by simp [go_sem, World.cell?_alloc_past]) (by omega) (cell3 f0 _ _ _) (by omega)).mono ?_
      rintro e w' ⟨rfl, rfl⟩
      go_wp2_with fail
      refine (nextZ_some (w1.heap.size + 1) w.heap.size 0 k n s0 key _ (by simp [go_sem, World.cell?_alloc_past]) (by omega) (cell3 f0 _ _ _) (by omega)).mono ?_
      rintro e w' ⟨rfl, rfl⟩
      go_wp2_with fail
      refine (nextZ_some (w1.heap.size + 1) w.heap.size 0 k n s0 s0 _ (by simp [go_sem, World.cell?_alloc_past]) (by omega) (cell3 f0 _ _ _) (by omega)).mono ?_
      rintro e w' ⟨rfl, rfl⟩
      go_wp2_with fail
      refine (nextZ_some (w1.heap.size + 1 + 1) w.heap.size (k * 2) (n - k) (n - k) sk sk _ (by simp [go_sem, World.cell?_alloc_past]) (by omega) (cell3 fk _ _ _) (by omega)).mono ?_
      rintro e w' ⟨rfl, rfl⟩
      go_wp2
      go_ret
      exact ⟨by simp, HB.out _ _ _⟩
    · have i3 : ¬ (0 : Int) < (k : Int) := by omega
      go_wp2_with (go_at_call 8; refine (reader_any _ _ _ _ _).mono ?_; rintro e w' ⟨rfl, rfl⟩)
      refine (nextZ_some (w1.heap.size + 1 + 1) w.heap.size (k * 2) (n - k) (n - k) sk sk _ (by simp [go_sem, World.cell?_alloc_past]) (by omega) (cell3 fk _ _ _) (by omega)).mono ?_
      rintro e w' ⟨rfl, rfl⟩
      go_wp2
      go_ret
      exact ⟨by simp, HB.out _ _ _⟩
  · obtain rfl : k = n := by omega
    by_cases hk0 : 0 < k
    · obtain ⟨b, o, rfl, hcs⟩ := hS1 (by omega)
      obtain ⟨s0, hs0⟩ : ∃ s, s = ss.getD 0 ByteArray.empty := ⟨_, rfl⟩
      have e0 : w1.cell? ⟨b, o, none⟩ = some (.string s0) := by rw [hs0]; exact hcs 0 (by omega)
      have f0 : w1.cell? ⟨w.heap.size, 0, none⟩ = some (.string s0) := by rw [hs0]; simpa using hK 0 (by omega)
      have E0 := cell3 e0
      clear hs0 hcs hK
      have i3 : (0 : Int) < (k : Int) := by omega
      go_wp2_with (go_at_call 8; refine (reader_any _ _ _ _ _).mono ?_; rintro e w' ⟨rfl, rfl⟩)
      refine (nextZ_some w1.heap.size w.heap.size 0 k k s0 key _ (by simp [go_sem, World.cell?_alloc_past]) (by omega) (cell3 f0 _ _ _) (by omega)).mono ?_
      rintro e w' ⟨rfl, rfl⟩
      go_wp2_with fail
      refine (nextZ_some (w1.heap.size + 1) w.heap.size 0 k k s0 key _ (by simp [go_sem, World.cell?_alloc_past]) (by omega) (cell3 f0 _ _ _) (by omega)).mono ?_
      rintro e w' ⟨rfl, rfl⟩
      go_wp2_with fail
      refine (nextZ_some (w1.heap.size + 1) w.heap.size 0 k k s0 s0 _ (by simp [go_sem, World.cell?_alloc_past]) (by omega) (cell3 f0 _ _ _) (by omega)).mono ?_
      rintro e w' ⟨rfl, rfl⟩
      go_wp2_with fail
      refine (nextZ_none (w1.heap.size + 1 + 1) _ _ key _ (by simp [go_sem, World.cell?_alloc_past]; exact ⟨rfl, rfl⟩)).mono ?_
      rintro e w' ⟨rfl, rfl⟩
      go_wp2
      go_ret
      exact ⟨by simp, HB.out _ _ _⟩
    · have i3 : ¬ (0 : Int) < (k : Int) := by omega
      clear hS1 hK
      go_wp2_with (go_at_call 8; refine (reader_any _ _ _ _ _).mono ?_; rintro e w' ⟨rfl, rfl⟩)
      refine (nextZ_none (w1.heap.size + 1 + 1) _ _ key _ (by simp [go_sem, World.cell?_alloc_past]; exact ⟨rfl, rfl⟩)).mono ?_
      rintro e w' ⟨rfl, rfl⟩
      go_wp2
      go_ret
      exact ⟨by simp, HB.out _ _ _⟩
end Go.Proofs.Qxb6608656a.Nx
