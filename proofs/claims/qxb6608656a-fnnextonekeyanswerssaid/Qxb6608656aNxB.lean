import Derived.Test.Qxb6608656aNxA
namespace Go.Proofs.Qxb6608656a.Nx
open Go.RowKit
set_option linter.unusedSimpArgs false
set_option linter.unusedVariables false

/-- The keys lie in block g: each the first of two cells. -/
def Keys (w : World) (g : Nat) (ss : List ByteArray) (k : Nat) : Prop := ∀ i, i < k → w.cell? ⟨g, i * 2, none⟩ = some (.string (ss.getD i ByteArray.empty))
theorem Keys.below {w w' : World} {g : Nat} {ss : List ByteArray} {k : Nat} (h : Keys w g ss k) (hb : Below w.heap.size w w') : Keys w' g ss k := fun i hi => by
  have hg : g < w.heap.size := World.block_lt_of_cell? _ _ (h i hi)
  exact (hb.cell (by exact hg)).trans (h i hi)

/-- The headers in the making: k of them are laid. -/
def Making (w0 wr : World) (g n k : Nat) (ss : List ByteArray) : Prop :=
  (∀ j, j < n * 2 → (wr.cell? ⟨g, j, none⟩).isSome = true) ∧ (∀ j, wr.frozen? ⟨g, j, none⟩ = false) ∧ Keys wr g ss k ∧ Below g w0 wr ∧ g < wr.heap.size

theorem Making.store {w0 wr : World} {g n k : Nat} {ss : List ByteArray} (h : Making w0 wr g n k ss) (hk : k < n) {s v : ByteArray} (es : ss.getD k ByteArray.empty = s) :
    Making w0 ((wr.setCell ⟨g, k * 2, none⟩ (.string s)).setCell ⟨g, k * 2 + 1, none⟩ (.string v)) g n (k + 1) ss := by
  subst es
  obtain ⟨h1, h2, h3, h4, h5⟩ := h
  obtain ⟨u0, hu0⟩ := Option.isSome_iff_exists.1 (h1 (k * 2) (by omega))
  obtain ⟨u1, hu1⟩ := Option.isSome_iff_exists.1 (h1 (k * 2 + 1) (by omega))
  have e0 : (wr.setCell ⟨g, k * 2, none⟩ (.string (ss.getD k ByteArray.empty))).cell? ⟨g, k * 2 + 1, none⟩ = some u1 := by
    rw [World.cell?_setCell_other _ _ _ _ (by simp)]; exact hu1
  have other : ∀ j, j ≠ k * 2 → j ≠ k * 2 + 1 → ((wr.setCell ⟨g, k * 2, none⟩ (.string (ss.getD k ByteArray.empty))).setCell ⟨g, k * 2 + 1, none⟩ (.string v)).cell? ⟨g, j, none⟩ = wr.cell? ⟨g, j, none⟩ := fun j ha hb => by
    rw [World.cell?_setCell_other _ _ _ _ (by intro h; injection h with _ h _; omega), World.cell?_setCell_other _ _ _ _ (by intro h; injection h with _ h _; omega)]
  have one : ((wr.setCell ⟨g, k * 2, none⟩ (.string (ss.getD k ByteArray.empty))).setCell ⟨g, k * 2 + 1, none⟩ (.string v)).cell? ⟨g, k * 2 + 1, none⟩ = some (.string v) := World.cell?_setCell_same _ _ _ e0
  have zero : ((wr.setCell ⟨g, k * 2, none⟩ (.string (ss.getD k ByteArray.empty))).setCell ⟨g, k * 2 + 1, none⟩ (.string v)).cell? ⟨g, k * 2, none⟩ = some (.string (ss.getD k ByteArray.empty)) := by
    rw [World.cell?_setCell_other _ _ _ _ (by simp)]; exact World.cell?_setCell_same _ _ _ hu0
  refine ⟨fun j hj => ?_, fun j => by simp [h2], fun i hi => ?_, (h4.setCell (Nat.le_refl _) _).setCell (Nat.le_refl _) _, by simpa using h5⟩
  · by_cases ha : j = k * 2
    · subst ha; rw [zero]; rfl
    · by_cases hb : j = k * 2 + 1
      · subst hb; rw [one]; rfl
      · rw [other j ha hb]; exact h1 j hj
  · by_cases ha : i = k
    · subst ha; exact zero
    · rw [other _ (by omega) (by omega)]
      exact h3 i (by omega)
theorem making_start (w0 : World) (z : Array Value) (n : Nat) (ss : List ByteArray) : Making w0 (w0.alloc (.cells (madeCells z (n * 2)) 34)) w0.heap.size n 0 ss := by
  refine ⟨fun j hj => ?_, fun j => ?_, fun i hi => absurd hi (Nat.not_lt_zero _), (Below.refl _ _).alloc (Nat.le_refl _) _, by simp⟩
  · rw [World.cell?_alloc_new]; simp [madeCells, hj]
  · exact World.frozen?_alloc_at _ _ _ _ rfl

set_option maxHeartbeats 2000000 in
theorem headers_any (a0 a1 : Option Addr) (n m c0 c1 : Nat) (ss vs : List ByteArray) (w : World) (hn : ss.length = n) (hm : vs.length = m) (hnb : n ≤ 1048576) (hmb : m ≤ 1048576) (hS : StrsAt w a0 ss) (hV : StrsAt w a1 vs) :
    Calls Try.prog 7 #[.slice a0 n c0, .slice a1 m c1] w fun e w' => e = .returned (.slice (some ⟨w.heap.size, 0, none⟩) n n) ∧ Keys w' w.heap.size ss n ∧ Below w.heap.size w w' ∧ w.heap.size < w'.heap.size := by
  obtain ⟨i34, hi, hz0, hz1, hz2⟩ := info_parts info34
  have hmk := fun W => run_make (P := Try.prog) W 26 34 i34 _ Try.underlying26 hi hz0 .i64 .i64 (n : Int) (n : Int) (by omega) (Int.le_refl _) (by rw [hz2]; omega) (by omega)
  simp only [hz1, Int.toNat_natCast] at hmk
  go_enter Try.func7, Try.ntmps7
  go_wp2
  go_loopw [6, 7] (fun i v wr => ∃ k : Nat, k ≤ n ∧ i = .int .i64 k ∧ Making w wr w.heap.size n k ss) (fun i _ _ => n - (intOf i).toNat)
  case atStart => exact ⟨0, Nat.zero_le _, rfl, making_start w #[.string ByteArray.empty, .string ByteArray.empty] n ss⟩
  case round =>
    obtain ⟨k, hk, rfl, hM⟩ := hrel
    by_cases hlt : k < n
    · obtain ⟨b, o, rfl, hcs⟩ := hS (by omega)
      have hs := hcs k (by omega)
      have hg : b < w.heap.size := World.block_lt_of_cell? _ _ hs
      have bel := hM.2.2.2.1
      have q0 : wr.cell? ⟨b, o + k, none⟩ = some (.string (ss.getD k ByteArray.empty)) := (bel.cell (by exact hg)).trans hs
      obtain ⟨u0, hu0⟩ := Option.isSome_iff_exists.1 (hM.1 (k * 2) (by omega))
      obtain ⟨u1, hu1⟩ := Option.isSome_iff_exists.1 (hM.1 (k * 2 + 1) (by omega))
      have f0 := hM.2.1 (k * 2)
      have f1 := hM.2.1 (k * 2 + 1)
      have Hm : Hid (Making w wr w.heap.size n k ss) := hM
      by_cases hkm : k < m
      · obtain ⟨b', o', rfl, hcb⟩ := hV (by omega)
        have hbl := hcb k (by omega)
        have hg' : b' < w.heap.size := World.block_lt_of_cell? _ _ hbl
        have q1 : wr.cell? ⟨b', o' + k, none⟩ = some (.string (vs.getD k ByteArray.empty)) := (bel.cell (by exact hg')).trans hbl
        clear hcs hcb hs hbl bel hM hS hV hmk
        go_wp2
        go_roundw
        case rel => exact ⟨k + 1, by omega, by go_num, Hm.out.store hlt (by simp [hn, hlt])⟩
        case measure => simp [intOf]; omega
      · clear hcs hs bel hM hS hV hmk
        go_wp2
        go_roundw
        case rel => exact ⟨k + 1, by omega, by go_num, Hm.out.store hlt (by simp [hn, hlt])⟩
        case measure => simp [intOf]; omega
    · have hkn : k = n := by omega
      subst hkn
      have Hm : Hid (Making w wr w.heap.size k k ss) := hM
      clear hM hS hV hmk
      go_wp2
      go_ret
      exact ⟨rfl, Hm.out.2.2.1, Hm.out.2.2.2.1, Hm.out.2.2.2.2⟩

set_option maxRecDepth 100000 in
set_option maxHeartbeats 2000000 in
theorem bytesSuffix_any (t : Int) (a0 a1 : Option Addr) (n m c0 c1 : Nat) (ss vs : List ByteArray) (key : ByteArray) (ix : Int) (w : World) (hn : ss.length = n) (hm : vs.length = m) (hS : StrsAt w a0 ss) (hV : StrsAt w a1 vs)
    (hn0 : n ≤ maxLen) (hm0 : m ≤ maxLen) (h1 : key.size ≤ maxLen) :
    Calls Try.prog 5 #[.int .i8 t, .slice a0 n c0, .slice a1 m c1, .string key, .int .i64 ix] w fun e w' => SomeBool e ∧ w = w' := by
  unfold maxLen at hn0 hm0 h1
  by_cases hbig : (1048576 : Int) < (n : Int)
  · go_enter Try.func5, Try.ntmps5
    go_wp2
    go_ret
    exact ⟨⟨_, rfl⟩, rfl⟩
  go_enter Try.func5, Try.ntmps5
  go_wp2
  go_loop [11, 12] (fun z i => ∃ (k : Nat) (y : Int), k ≤ n ∧ i = .int .i64 k ∧ 0 ≤ y ∧ y ≤ 1048576 ∧ z = .int .i64 y) (fun _ i => n - (intOf i).toNat)
  case atStart => exact ⟨0, _, Nat.zero_le _, rfl, by omega, by omega, rfl⟩
  case round =>
    obtain ⟨k, y, hk, rfl, hy0, hy1, rfl⟩ := hrel
    by_cases hlt : k < n
    · obtain ⟨b, o, rfl, hcs⟩ := hS (by omega)
      have hs := hcs k (by omega)
      clear hcs hS hV
      go_wp2
      all_goals first
        | (go_round
           case rel => exact ⟨k + 1, _, by omega, by go_num, by omega, by omega, rfl⟩
           case measure => simp [intOf]; omega)
        | (go_ret
           exact ⟨⟨_, rfl⟩, rfl⟩)
    · clear hS
      go_wp2
      all_goals try
        (go_ret
         exact ⟨⟨_, rfl⟩, rfl⟩)
      go_loop [11, 13] (fun z i => ∃ (k : Nat) (y : Int), k ≤ m ∧ i = .int .i64 k ∧ 0 ≤ y ∧ y ≤ 1048576 ∧ z = .int .i64 y) (fun _ i => m - (intOf i).toNat)
      case atStart => exact ⟨0, _, Nat.zero_le _, rfl, by omega, by omega, rfl⟩
      case round =>
        obtain ⟨k', y', hk', rfl, hy0', hy1', rfl⟩ := hrel
        by_cases hlt' : k' < m
        · obtain ⟨b, o, rfl, hcs⟩ := hV (by omega)
          have hs := hcs k' (by omega)
          clear hcs hV
          go_wp2
          all_goals first
            | (go_round
               case rel => exact ⟨k' + 1, _, by omega, by go_num, by omega, by omega, rfl⟩
               case measure => simp [intOf]; omega)
            | (go_ret
               exact ⟨⟨_, rfl⟩, rfl⟩)
        · clear hV
          go_wp2
          all_goals
            go_ret
            exact ⟨⟨_, rfl⟩, rfl⟩
end Go.Proofs.Qxb6608656a.Nx
