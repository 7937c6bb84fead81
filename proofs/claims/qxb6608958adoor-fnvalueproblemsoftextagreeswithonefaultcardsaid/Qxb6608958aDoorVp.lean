import Derived.Test.Qxb6608958aDoorAs
import Derived.WalkSpells
import Derived.WalkLawsBesides
import Derived.Laws.Pointers
import Derived.Deep.DrawnRows
import Derived.Laws.Concat
namespace Go.Proofs.Qxb6608958aDoor.Fl
open Go.RowKit
set_option linter.unusedSimpArgs false
set_option linter.unusedVariables false
attribute [local go_sem ↓] Go.wp_at_zero Go.wp_at_succ

/-- errors.errorType as the text lays it. -/
def Er (w : World) : Prop := w.cell? ⟨0, 0, none⟩ = some (.iface 53 (.agg #[.pointer (some ⟨2, 28, none⟩)]))
theorem Er.pos {w : World} (h : Er w) : 0 < w.heap.size := by
  rcases Nat.eq_zero_or_pos w.heap.size with h0 | h1
  · simp [Er, World.cell?, h0] at h
  · exact h1
theorem Er.below {B : Nat} {w w' : World} (h : Er w) (hb : Below B w w') (hB : 0 < B) : Er w' := (hb.cell hB).trans h

theorem as_hit2 (e : Addr) (g : Nat) (old : Value) (w : World) (hg : Er w) (ht0 : w.cell? ⟨g, 0, none⟩ = some old) (hf0 : w.frozen? ⟨g, 0, none⟩ = false) :
    Calls Tryd.prog 9 #[.iface 30 (.pointer (some e)), .iface 35 (.pointer (some ⟨g, 0, none⟩))] w fun ev w' => ev = .returned (.bool true) ∧ Below g w w' ∧ w'.cell? ⟨g, 0, none⟩ = some (.pointer (some e)) := by
  have htl : g < w.heap.size := by
    rcases Nat.lt_or_ge g w.heap.size with h | h
    · exact h
    · simp [World.cell?, Array.getElem?_eq_none h] at ht0
  refine (as_hit e ⟨g, 0, none⟩ old w hg ht0 hf0).mono ?_
  rintro ev w' ⟨rfl, rfl⟩
  have hA : ∀ o1 o2 o3 o4, Below w.heap.size w ((((w.alloc o1).alloc o2).alloc o3).alloc o4) := fun o1 o2 o3 o4 => ((((Below.refl _ _).alloc (Nat.le_refl _) _).alloc (by simp) _).alloc (by simp; omega) _).alloc (by simp; omega) _
  have hM : ∀ o1 o2 o3 o4, Below g w ((((w.alloc o1).alloc o2).alloc o3).alloc o4) := fun o1 o2 o3 o4 => (hA o1 o2 o3 o4).mono (Nat.le_of_lt htl)
  refine ⟨rfl, Below.setCell (hM _ _ _ _) (Nat.le_refl g) _, ?_⟩
  exact World.cell?_setCell_same _ _ _ (((hA _ _ _ _).cell htl).trans ht0)
theorem as_miss2 (e : Addr) (g : Nat) (old : Value) (w : World) (hg : Er w) (ht0 : w.cell? ⟨g, 0, none⟩ = some old) (hf0 : w.frozen? ⟨g, 0, none⟩ = false) :
    Calls Tryd.prog 9 #[.iface 36 (.pointer (some e)), .iface 35 (.pointer (some ⟨g, 0, none⟩))] w fun ev w' => ev = .returned (.bool false) ∧ Below w.heap.size w w' := by
  refine (as_miss e ⟨g, 0, none⟩ old w hg ht0 hf0).mono ?_
  rintro ev w' ⟨rfl, rfl⟩
  exact ⟨rfl, (((Below.refl _ _).alloc (Nat.le_refl _) _).alloc (by simp) _).alloc (by simp; omega) _⟩

theorem err43 (b : Nat) (s : ByteArray) (w : World) (h : w.cell? ⟨b, 0, none⟩ = some (.string s)) : Calls Tryd.prog 43 #[.pointer (some ⟨b, 0, none⟩)] w fun ev w' => ev = .returned (.string s) ∧ w = w' := by
  go_enter Tryd.func43, Tryd.ntmps43
  go_wp2
  go_ret
  exact ⟨rfl, rfl⟩
theorem join1 (a : Nat) (s sep : ByteArray) (w : World) (h : w.cell? ⟨a, 0, none⟩ = some (.string s)) : Calls Tryd.prog 35 #[.slice (some ⟨a, 0, none⟩) 1 1, .string sep] w fun ev w' => ev = .returned (.string s) ∧ w = w' := by
  go_enter Tryd.func35, Tryd.ntmps35
  go_wp2
  go_ret
  exact ⟨rfl, rfl⟩
theorem err34 (b a : Nat) (s : ByteArray) (w : World) (h : w.cell? ⟨b, 0, none⟩ = some (.slice (some ⟨a, 0, none⟩) 1 1)) (h2 : w.cell? ⟨a, 0, none⟩ = some (.string s)) : Calls Tryd.prog 34 #[.pointer (some ⟨b, 0, none⟩)] w fun ev w' => ev = .returned (.string s) ∧ w = w' := by
  go_enter Tryd.func34, Tryd.ntmps34
  go_wp2_with (go_at_call 35; refine (join1 a s _ _ h2).mono ?_; rintro e w' ⟨rfl, rfl⟩)
  go_ret
  exact ⟨rfl, rfl⟩
theorem mk1 (w : World) : (Instr.makeSlice 23 (.int .i64 1) (.int .i64 1)).run Tryd.prog w = .ok (.slice (some ⟨w.heap.size, 0, none⟩) 1 1) (w.alloc (.cells #[.string ByteArray.empty] 9)) := by kernel_rfl
theorem mE36 (v : Value) (w : World) : (Go.method 205 36 v "Error").run Tryd.prog w = .ok (43, v) w := by kernel_rfl
theorem mE30 (v : Value) (w : World) : (Go.method 205 30 v "Error").run Tryd.prog w = .ok (34, v) w := by kernel_rfl
/-- "value " and the text. -/
def val (s : ByteArray) : ByteArray := ByteArray.mk #[118, 97, 108, 117, 101, 32] ++ s

theorem add_val (s : ByteArray) (hs : s.size ≤ 1048576) (w : World) : (Op.stringOp .add (ByteArray.mk #[118, 97, 108, 117, 101, 32]) s).run Tryd.prog w = .ok (.string (val s)) w := by
  have h6 : (ByteArray.mk #[118, 97, 108, 117, 101, 32]).size = 6 := rfl
  exact run_string_add_sum _ _ _ (by omega)
set_option maxHeartbeats 4000000 in
theorem vp_text (b : Nat) (s : ByteArray) (hs : s.size ≤ 1048576) (w : World) (hg : Er w) (h : w.cell? ⟨b, 0, none⟩ = some (.string s)) :
    Calls Tryd.prog 7 #[.iface 36 (.pointer (some ⟨b, 0, none⟩))] w fun ev w' => ∃ a, ev = .returned (.slice (some ⟨a, 0, none⟩) 1 1) ∧ w'.cell? ⟨a, 0, none⟩ = some (.string (val s)) ∧ Below w.heap.size w w' := by
  have m1 := mk1
  have m2 := mE36
  have ha := add_val s hs
  clear hs
  have HG : Hid (Er w) := hg
  have HA : Hid (∀ o1 o2, Below w.heap.size w ((w.alloc o1).alloc o2)) := fun o1 o2 => ((Below.refl _ _).alloc (Nat.le_refl _) _).alloc (by simp) _
  have HT : Hid (∀ o, ((w.alloc o).alloc (.cells #[.pointer none] 30)).cell? ⟨w.heap.size + 1, 0, none⟩ = some (.pointer none)) := fun o => by simp
  have HF : Hid (∀ o, ((w.alloc o).alloc (.cells #[.pointer none] 30)).frozen? ⟨w.heap.size + 1, 0, none⟩ = false) := fun o => by simp
  clear hg
  go_enter Tryd.func7, Tryd.ntmps7
  go_wp2_with (go_at_call 43; refine (err43 b s _ h).mono ?_; rintro e w' ⟨rfl, rfl⟩)
  refine (as_miss2 _ _ (.pointer none) _ (HG.out.below (HA.out _ _) HG.out.pos) (HT.out _) (HF.out _)).mono ?_
  rintro e w' ⟨rfl, hb⟩
  have hc : w'.cell? ⟨w.heap.size, 0, none⟩ = some (.string s) := (hb.cell (by simp; omega)).trans (World.cell?_alloc2_first _ _ _ _)
  have hlt : w.heap.size < w'.heap.size := by have := hb.size; simp at this; omega
  have H0 : Hid (Below w.heap.size w w') := (HA.out _ _).trans (hb.mono (by simp; omega))
  clear hb
  go_wp2
  refine wp_loop_rounds 2 ?_
  rw [rounds_succ]
  go_wp2
  rw [rounds_succ]
  go_wp2
  go_ret
  refine ⟨w'.heap.size, rfl, by simp, ?_⟩
  have h0 := H0.out
  exact Below.alloc h0 (Nat.le_of_lt hlt) _

set_option maxHeartbeats 4000000 in
theorem vp_faults (b a : Nat) (s : ByteArray) (hs : s.size ≤ 1048576) (w : World) (hg : Er w) (h : w.cell? ⟨b, 0, none⟩ = some (.slice (some ⟨a, 0, none⟩) 1 1)) (h2 : w.cell? ⟨a, 0, none⟩ = some (.string s)) :
    Calls Tryd.prog 7 #[.iface 30 (.pointer (some ⟨b, 0, none⟩))] w fun ev w' => ∃ a, ev = .returned (.slice (some ⟨a, 0, none⟩) 1 1) ∧ w'.cell? ⟨a, 0, none⟩ = some (.string (val s)) ∧ Below w.heap.size w w' := by
  have m1 := mk1
  have m2 := mE30
  have ha := add_val s hs
  clear hs
  have HG : Hid (Er w) := hg
  have HA : Hid (∀ o1 o2, Below w.heap.size w ((w.alloc o1).alloc o2)) := fun o1 o2 => ((Below.refl _ _).alloc (Nat.le_refl _) _).alloc (by simp) _
  have HT : Hid (∀ o, ((w.alloc o).alloc (.cells #[.pointer none] 30)).cell? ⟨w.heap.size + 1, 0, none⟩ = some (.pointer none)) := fun o => by simp
  have HF : Hid (∀ o, ((w.alloc o).alloc (.cells #[.pointer none] 30)).frozen? ⟨w.heap.size + 1, 0, none⟩ = false) := fun o => by simp
  clear hg
  have la : a < w.heap.size := World.block_lt_of_cell? _ _ h2
  have lb : b < w.heap.size := World.block_lt_of_cell? _ _ h
  go_enter Tryd.func7, Tryd.ntmps7
  go_wp2_with (go_at_call 34; refine (err34 b a s _ h h2).mono ?_; rintro e w' ⟨rfl, rfl⟩)
  refine (as_hit2 _ _ (.pointer none) _ (HG.out.below (HA.out _ _) HG.out.pos) (HT.out _) (HF.out _)).mono ?_
  rintro e w' ⟨rfl, hb, ht⟩
  have H0 : Hid (Below w.heap.size w w') := (HA.out _ _).trans (hb.mono (by omega))
  have hca : w'.cell? ⟨a, 0, none⟩ = some (.string s) := (H0.out.cell la).trans h2
  have hcb : w'.cell? ⟨b, 0, none⟩ = some (.slice (some ⟨a, 0, none⟩) 1 1) := (H0.out.cell lb).trans h
  have hlt : w.heap.size < w'.heap.size := by have := hb.size; simp at this; omega
  have lc : a < w'.heap.size := by omega
  clear hb
  go_wp2
  refine wp_loop_rounds 2 ?_
  rw [rounds_succ]
  go_wp2
  rw [rounds_succ]
  go_wp2
  go_ret
  refine ⟨w'.heap.size, rfl, by simp, ?_⟩
  have h0 := H0.out
  exact Below.alloc h0 (Nat.le_of_lt hlt) _

theorem new8 (s : ByteArray) (w : World) : Calls Tryd.prog 8 #[.string s] w fun ev w' => ev = .returned (.iface 36 (.pointer (some ⟨w.heap.size, 0, none⟩))) ∧ w.alloc (.cells #[.string s] 38) = w' := by
  go_enter Tryd.func8, Tryd.ntmps8
  go_wp2
  go_ret
  exact ⟨rfl, rfl⟩
set_option maxHeartbeats 1000000 in
theorem ztext (s : ByteArray) (hs : s.size ≤ 1048576) (w : World) (hg : Er w) :
    Calls Tryd.prog 5 #[.string s] w fun ev w' => ∃ a, ev = .returned (.slice (some ⟨a, 0, none⟩) 1 1) ∧ w'.cell? ⟨a, 0, none⟩ = some (.string (val s)) ∧ Below w.heap.size w w' := by
  have HG : Hid (Er w) := hg
  have HA : Hid (∀ o1, Below w.heap.size w (w.alloc o1)) := fun o1 => (Below.refl _ _).alloc (Nat.le_refl _) _
  have HC : Hid (∀ t, (w.alloc (.cells #[.string s] t)).cell? ⟨w.heap.size, 0, none⟩ = some (.string s)) := fun t => by simp
  have HL : Hid (∀ o, w.heap.size ≤ (w.alloc o).heap.size) := fun o => by simp
  clear hg
  go_enter Tryd.func5, Tryd.ntmps5
  go_wp2_with (go_at_call 8; refine (new8 s _).mono ?_; rintro e w' ⟨rfl, rfl⟩)
  refine (vp_text _ s hs _ (HG.out.below (HA.out _) HG.out.pos) (HC.out _)).mono ?_
  rintro e w' ⟨a, rfl, hc, hb⟩
  go_wp2
  go_ret
  exact ⟨a, rfl, hc, (HA.out _).trans (hb.mono (HL.out _))⟩
set_option maxHeartbeats 1000000 in
theorem zfaults (a : Nat) (s : ByteArray) (hs : s.size ≤ 1048576) (w : World) (hg : Er w) (h2 : w.cell? ⟨a, 0, none⟩ = some (.string s)) :
    Calls Tryd.prog 6 #[.slice (some ⟨a, 0, none⟩) 1 1] w fun ev w' => ∃ a, ev = .returned (.slice (some ⟨a, 0, none⟩) 1 1) ∧ w'.cell? ⟨a, 0, none⟩ = some (.string (val s)) ∧ Below w.heap.size w w' := by
  have HG : Hid (Er w) := hg
  have HA : Hid (∀ o1, Below w.heap.size w (w.alloc o1)) := fun o1 => (Below.refl _ _).alloc (Nat.le_refl _) _
  have HC : Hid (∀ v t, (w.alloc (.cells #[v] t)).cell? ⟨w.heap.size, 0, none⟩ = some v) := fun v t => by simp
  have HS : Hid (∀ o, (w.alloc o).cell? ⟨a, 0, none⟩ = some (.string s)) := fun o => (((Below.refl w.heap.size w).alloc (Nat.le_refl _) o).cell (World.block_lt_of_cell? _ _ h2)).trans h2
  have HL : Hid (∀ o, w.heap.size ≤ (w.alloc o).heap.size) := fun o => by simp
  clear hg h2
  go_enter Tryd.func6, Tryd.ntmps6
  go_wp2_with (go_at_call 7; refine (vp_faults _ a s hs _ (HG.out.below (HA.out _) HG.out.pos) (HC.out _ _) (HS.out _)).mono ?_; rintro e w' ⟨a, rfl, hc, hb⟩)
  go_ret
  exact ⟨_, rfl, hc, (HA.out _).trans (hb.mono (HL.out _))⟩
theorem bytes_small (s : ByteArray) (hs : s.size ≤ 1048576) (w : World) : Calls Tryd.prog 4 #[.string s] w fun ev w' => ev = .returned (.bool true) ∧ w = w' := by
  have h1 : ¬ (1048576 : Int) < (s.size : Int) := by omega
  go_enter Tryd.func4, Tryd.ntmps4
  go_wp2
  go_ret
  exact ⟨rfl, rfl⟩
theorem bytes_large (s : ByteArray) (hs : ¬ s.size ≤ 1048576) (w : World) : Calls Tryd.prog 4 #[.string s] w fun ev w' => ev = .returned (.bool false) ∧ w = w' := by
  have h1 : (1048576 : Int) < (s.size : Int) := by omega
  go_enter Tryd.func4, Tryd.ntmps4
  go_wp2
  go_ret
  exact ⟨rfl, rfl⟩
end Go.Proofs.Qxb6608958aDoor.Fl
