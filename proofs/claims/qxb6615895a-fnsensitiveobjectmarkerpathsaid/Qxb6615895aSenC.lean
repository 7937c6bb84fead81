import Derived.Test.Qxb6615895aSenB
import Derived.Laws.CopyOwn
import Derived.BigQuiet
import Derived.Deep.QuietTactic
namespace Go.Proofs.Qxb6615895a.Sen
open Go.RowKit
set_option linter.unusedSimpArgs false
set_option linter.unusedVariables false
attribute [local go_sem ↓] Go.wp_at_zero Go.wp_at_succ

theorem info49 : (Try.prog.info? 49).map (fun i => (i.zero, i.size, i.bytes)) = some (some (.agg #[.string ByteArray.empty, .nilIface]), 2, 32) := by kernel_rfl
theorem info9 : (Try.prog.info? 9).map (fun i => (i.zero, i.size, i.bytes)) = some (some (.string ByteArray.empty), 1, 16) := by kernel_rfl
theorem info4 : (Try.prog.info? 4).map (fun i => (i.zero, i.size, i.bytes)) = some (some (.bool false), 1, 1) := by kernel_rfl

/-- A slice of strings, as it lies in memory. -/
def StrsAt (w : World) (a : Option Addr) (ss : List ByteArray) : Prop :=
  0 < ss.length → ∃ b o, a = some ⟨b, o, none⟩ ∧ ∀ i, i < ss.length → w.cell? ⟨b, o + i, none⟩ = some (.string (ss.getD i ByteArray.empty))
def BoolsAt (w : World) (a : Option Addr) (bs : List Bool) : Prop :=
  0 < bs.length → ∃ b o, a = some ⟨b, o, none⟩ ∧ ∀ i, i < bs.length → w.cell? ⟨b, o + i, none⟩ = some (.bool (bs.getD i false))
theorem StrsAt.below {w w' : World} {a : Option Addr} {ss : List ByteArray} (h : StrsAt w a ss) (hb : Below w.heap.size w w') : StrsAt w' a ss := fun h0 => by
  obtain ⟨b, o, ha, hc⟩ := h h0
  refine ⟨b, o, ha, fun i hi => ?_⟩
  have hg : b < w.heap.size := World.block_lt_of_cell? _ _ (hc i hi)
  exact (hb.cell (by exact hg)).trans (hc i hi)
theorem BoolsAt.below {w w' : World} {a : Option Addr} {ss : List Bool} (h : BoolsAt w a ss) (hb : Below w.heap.size w w') : BoolsAt w' a ss := fun h0 => by
  obtain ⟨b, o, ha, hc⟩ := h h0
  refine ⟨b, o, ha, fun i hi => ?_⟩
  have hg : b < w.heap.size := World.block_lt_of_cell? _ _ (hc i hi)
  exact (hb.cell (by exact hg)).trans (hc i hi)

/-- The object in the making: k members are laid. -/
def Making (w0 wr : World) (g n k : Nat) (ss : List ByteArray) (bs : List Bool) : Prop :=
  (∀ j, j < n * 2 → (wr.cell? ⟨g, j, none⟩).isSome = true) ∧ (∀ j, wr.frozen? ⟨g, j, none⟩ = false) ∧
  (∀ i, i < k → wr.cell? ⟨g, i * 2, none⟩ = some (.string (ss.getD i ByteArray.empty)) ∧ wr.cell? ⟨g, i * 2 + 1, none⟩ = some (.iface 4 (.bool (bs.getD i false)))) ∧
  Below g w0 wr ∧ g < wr.heap.size

theorem Making.store {w0 wr : World} {g n k : Nat} {ss : List ByteArray} {bs : List Bool} (h : Making w0 wr g n k ss bs) (hk : k < n) :
    Making w0 ((wr.setCell ⟨g, k * 2, none⟩ (.string (ss.getD k ByteArray.empty))).setCell ⟨g, k * 2 + 1, none⟩ (.iface 4 (.bool (bs.getD k false)))) g n (k + 1) ss bs := by
  obtain ⟨h1, h2, h3, h4, h5⟩ := h
  obtain ⟨u0, hu0⟩ := Option.isSome_iff_exists.1 (h1 (k * 2) (by omega))
  obtain ⟨u1, hu1⟩ := Option.isSome_iff_exists.1 (h1 (k * 2 + 1) (by omega))
  have e0 : (wr.setCell ⟨g, k * 2, none⟩ (.string (ss.getD k ByteArray.empty))).cell? ⟨g, k * 2 + 1, none⟩ = some u1 := by
    rw [World.cell?_setCell_other _ _ _ _ (by simp)]; exact hu1
  have other : ∀ j, j ≠ k * 2 → j ≠ k * 2 + 1 → ((wr.setCell ⟨g, k * 2, none⟩ (.string (ss.getD k ByteArray.empty))).setCell ⟨g, k * 2 + 1, none⟩ (.iface 4 (.bool (bs.getD k false)))).cell? ⟨g, j, none⟩ = wr.cell? ⟨g, j, none⟩ := fun j ha hb => by
    rw [World.cell?_setCell_other _ _ _ _ (by intro h; injection h with _ h _; omega), World.cell?_setCell_other _ _ _ _ (by intro h; injection h with _ h _; omega)]
  have one : ((wr.setCell ⟨g, k * 2, none⟩ (.string (ss.getD k ByteArray.empty))).setCell ⟨g, k * 2 + 1, none⟩ (.iface 4 (.bool (bs.getD k false)))).cell? ⟨g, k * 2 + 1, none⟩ = some (.iface 4 (.bool (bs.getD k false))) := World.cell?_setCell_same _ _ _ e0
  have zero : ((wr.setCell ⟨g, k * 2, none⟩ (.string (ss.getD k ByteArray.empty))).setCell ⟨g, k * 2 + 1, none⟩ (.iface 4 (.bool (bs.getD k false)))).cell? ⟨g, k * 2, none⟩ = some (.string (ss.getD k ByteArray.empty)) := by
    rw [World.cell?_setCell_other _ _ _ _ (by simp)]; exact World.cell?_setCell_same _ _ _ hu0
  refine ⟨fun j hj => ?_, fun j => by simp [h2], fun i hi => ?_, (h4.setCell (Nat.le_refl _) _).setCell (Nat.le_refl _) _, by simpa using h5⟩
  · by_cases ha : j = k * 2
    · subst ha; rw [zero]; rfl
    · by_cases hb : j = k * 2 + 1
      · subst hb; rw [one]; rfl
      · rw [other j ha hb]; exact h1 j hj
  · by_cases ha : i = k
    · subst ha; exact ⟨zero, one⟩
    · rw [other _ (by omega) (by omega), other _ (by omega) (by omega)]
      exact h3 i (by omega)

theorem Making.store' {w0 wr : World} {g n k : Nat} {ss : List ByteArray} {bs : List Bool} (h : Making w0 wr g n k ss bs) (hk : k < n) {s : ByteArray} {b : Bool} (es : ss.getD k ByteArray.empty = s) (eb : bs.getD k false = b) :
    Making w0 ((wr.setCell ⟨g, k * 2, none⟩ (.string s)).setCell ⟨g, k * 2 + 1, none⟩ (.iface 4 (.bool b))).drew g n (k + 1) ss bs := by
  subst es eb
  obtain ⟨h1, h2, h3, h4, h5⟩ := h.store hk
  exact ⟨h1, h2, h3, h4.drew, h5⟩

theorem making_start (w0 : World) (z : Array Value) (n : Nat) (ss : List ByteArray) (bs : List Bool) : Making w0 (w0.alloc (.cells (madeCells z (n * 2)) 49)) w0.heap.size n 0 ss bs := by
  refine ⟨fun j hj => ?_, fun j => ?_, fun i hi => absurd hi (Nat.not_lt_zero _), (Below.refl _ _).alloc (Nat.le_refl _) _, by simp⟩
  · rw [World.cell?_alloc_new]; simp [madeCells, hj]
  · exact World.frozen?_alloc_at _ _ _ _ rfl

set_option maxHeartbeats 2000000 in
theorem marked_any (a0 a1 : Option Addr) (n c0 c1 : Nat) (ss : List ByteArray) (bs : List Bool) (w : World) (hn : ss.length = n) (hm : bs.length = n) (hnb : n ≤ 1048576) (hS : StrsAt w a0 ss) (hB : BoolsAt w a1 bs) :
    Calls Try.prog 7 #[.slice a0 n c0, .slice a1 n c1] w fun e w' => ∃ g, e = .returned (.agg #[.nilIface, .nilIface, .iface 47 (.slice (some ⟨g, 0, none⟩) n n)]) ∧ Members w' g ss bs ∧ Below w.heap.size w w' := by
  obtain ⟨i49, hi, hz0, hz1, hz2⟩ := info_parts info49
  have hmk := fun W => run_make (P := Try.prog) W 47 49 i49 _ Try.underlying47 hi hz0 .i64 .i64 (n : Int) (n : Int) (by omega) (Int.le_refl _) (by rw [hz2]; omega) (by omega)
  simp only [hz1, Int.toNat_natCast] at hmk
  go_enter Try.func7, Try.ntmps7
  go_wp2
  go_loopw [6] (fun i wr => ∃ k : Nat, k ≤ n ∧ i = .int .i64 k ∧ Making (w.alloc (.cells #[.nilIface, .nilIface, .nilIface] 27)) wr (w.heap.size + 1) n k ss bs) (fun i _ => n - (intOf i).toNat)
  case atStart => exact ⟨0, Nat.zero_le _, rfl, by simpa using making_start (w.alloc (.cells #[.nilIface, .nilIface, .nilIface] 27)) #[.string ByteArray.empty, .nilIface] n ss bs⟩
  case round =>
    obtain ⟨k, hk, rfl, hM⟩ := hrel
    by_cases hlt : k < n
    · obtain ⟨b, o, rfl, hcs⟩ := hS (by omega)
      obtain ⟨b', o', rfl, hcb⟩ := hB (by omega)
      have hs := hcs k (by omega)
      have hbl := hcb k (by omega)
      have hg : b < w.heap.size := World.block_lt_of_cell? _ _ hs
      have hg' : b' < w.heap.size := World.block_lt_of_cell? _ _ hbl
      have bel := hM.2.2.2.1
      have q0 : wr.cell? ⟨b, o + k, none⟩ = some (.string (ss.getD k ByteArray.empty)) := (bel.cell (show b < w.heap.size + 1 by omega)).trans ((World.cell?_alloc_lt _ _ _ hg).trans hs)
      have q1 : wr.cell? ⟨b', o' + k, none⟩ = some (.bool (bs.getD k false)) := (bel.cell (show b' < w.heap.size + 1 by omega)).trans ((World.cell?_alloc_lt _ _ _ hg').trans hbl)
      obtain ⟨u0, hu0⟩ := Option.isSome_iff_exists.1 (hM.1 (k * 2) (by omega))
      obtain ⟨u1, hu1⟩ := Option.isSome_iff_exists.1 (hM.1 (k * 2 + 1) (by omega))
      have f0 := hM.2.1 (k * 2)
      have f1 := hM.2.1 (k * 2 + 1)
      have Hm : Hid (Making (w.alloc (.cells #[.nilIface, .nilIface, .nilIface] 27)) wr (w.heap.size + 1) n k ss bs) := hM
      have n0 : w.heap.size + 1 ≠ b := by omega
      have n1 : w.heap.size + 1 ≠ b' := by omega
      have i0 : (0 : Int) ≤ (k : Int) := by omega
      have i1 : (k : Int) < (n : Int) := by omega
      clear hcs hcb hs hbl bel hM hS hB hmk
      go_wp2
      go_region_held3 (fun w' => w'.cell? ⟨b, o + k, none⟩ = some (.string (ss.getD k ByteArray.empty)) ∧ w'.cell? ⟨b', o' + k, none⟩ = some (.bool (bs.getD k false))) (go_keep) (fail)
      go_wp2
      go_roundw
      case rel => exact ⟨k + 1, by omega, by go_num, Hm.out.store' hlt (by simp [hn, hlt]) (by simp [hm, hlt])⟩
      case measure => simp [intOf]; omega
    · have hc : ∀ j, wr.cell? ⟨w.heap.size, j, none⟩ = (w.alloc (.cells #[.nilIface, .nilIface, .nilIface] 27)).cell? ⟨w.heap.size, j, none⟩ := fun j => hM.2.2.2.1.cell (show w.heap.size < w.heap.size + 1 by omega)
      have hf : ∀ j, wr.frozen? ⟨w.heap.size, j, none⟩ = (w.alloc (.cells #[.nilIface, .nilIface, .nilIface] 27)).frozen? ⟨w.heap.size, j, none⟩ := fun j => hM.2.2.2.1.frozen (show w.heap.size < w.heap.size + 1 by omega)
      have hz := hM.2.2.2.2
      have Hm : Hid (Making (w.alloc (.cells #[.nilIface, .nilIface, .nilIface] 27)) wr (w.heap.size + 1) n k ss bs) := hM
      have hkn : k = n := by omega
      subst hkn
      clear hM hS hB hmk
      go_wp2
      refine bodyPost_ret (v := .agg #[.nilIface, .nilIface, .iface 47 (.slice (some ⟨w.heap.size + 1, 0, none⟩) k k)]) (by simp [results, Try.results7, go_sem, hc]) rfl ⟨w.heap.size + 1, rfl, ?_, ?_⟩
      · intro i hi
        have h3 := Hm.out.2.2.1 i (by omega)
        refine ⟨Eq.trans ?_ h3.1, Eq.trans ?_ h3.2⟩ <;> simp [World.cell?_setCell_far]
      · have h4 : Below w.heap.size w wr := ((Below.refl _ _).alloc (Nat.le_refl _) _).trans (Hm.out.2.2.2.1.mono (by omega))
        with_reducible repeat (first | exact h4 | refine Below.setCell ?_ (by simp) _)
end Go.Proofs.Qxb6615895a.Sen
