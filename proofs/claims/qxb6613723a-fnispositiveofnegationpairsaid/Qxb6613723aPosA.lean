import Derived.Test.Qxb6613723aRows
import Derived.WalkKit
import Derived.WalkSpells
import Derived.WalkLawsBesides
import Derived.StillTactics
import Derived.Laws.Pointers
import Derived.Laws.CopyOwn
import Derived.Deep.RegionHeld3
import Derived.Deep.DrawnRows
import Derived.RowKit3
namespace Go.Proofs.Qxb6613723a.Pos
open Go.RowKit
set_option linter.unusedSimpArgs false
set_option linter.unusedVariables false
attribute [local go_sem ↓] Go.wp_at_zero Go.wp_at_succ

/-- The magnitude. -/
def mag (x : Int) : Int := (x.natAbs : Int)
/-- A big.Int of at most one word in block p; its blocks lie from B on. -/
def BigAt (B : Nat) (w : World) (p : Nat) (x : Int) : Prop :=
  B ≤ p ∧ w.cell? ⟨p, 0, none⟩ = some (.bool (decide (x < 0))) ∧
  ((x = 0 ∧ w.cell? ⟨p, 1, none⟩ = some (.slice none 0 0)) ∨
   (x ≠ 0 ∧ ∃ b c, B ≤ b ∧ w.cell? ⟨p, 1, none⟩ = some (.slice (some ⟨b, 0, none⟩) 1 c) ∧ w.cell? ⟨b, 0, none⟩ = some (.int .u64 (mag x))))
theorem keep {w w' : World} {g j : Nat} {v : Value} (h : w.cell? ⟨g, j, none⟩ = some v) (hb : Below w.heap.size w w') : w'.cell? ⟨g, j, none⟩ = some v := (hb.cell (World.block_lt_of_cell? _ _ h)).trans h
theorem BigAt.below {B : Nat} {w w' : World} {p : Nat} {x : Int} (h : BigAt B w p x) (hb : Below w.heap.size w w') : BigAt B w' p x := by
  obtain ⟨hp, h0, h1⟩ := h
  refine ⟨hp, keep h0 hb, ?_⟩
  rcases h1 with ⟨hx, h1⟩ | ⟨hx, b, c, hB, h1, h2⟩
  · exact Or.inl ⟨hx, keep h1 hb⟩
  · exact Or.inr ⟨hx, b, c, hB, keep h1 hb, keep h2 hb⟩
theorem BigAt.lower {B C : Nat} {w : World} {p : Nat} {x : Int} (h : BigAt B w p x) (hC : C ≤ B) : BigAt C w p x := by
  obtain ⟨hp, h0, h1⟩ := h
  refine ⟨by omega, h0, ?_⟩
  rcases h1 with ⟨hx, h1⟩ | ⟨hx, b, c, hB, h1, h2⟩
  · exact Or.inl ⟨hx, h1⟩
  · exact Or.inr ⟨hx, b, c, by omega, h1, h2⟩
theorem BigAt.store {B : Nat} {w : World} {p g j : Nat} {x : Int} (h : BigAt B w p x) (hg : g < B) (v : Value) : BigAt B (w.setCell ⟨g, j, none⟩ v) p x := by
  have k : ∀ b o u, B ≤ b → w.cell? ⟨b, o, none⟩ = some u → (w.setCell ⟨g, j, none⟩ v).cell? ⟨b, o, none⟩ = some u := fun b o u hb hc => by
    rw [World.cell?_setCell_other _ _ _ _ (by intro e; injection e with e _ _; omega)]; exact hc
  obtain ⟨hp, h0, h1⟩ := h
  refine ⟨hp, k _ _ _ hp h0, ?_⟩
  rcases h1 with ⟨hx, h1⟩ | ⟨hx, b, c, hB, h1, h2⟩
  · exact Or.inl ⟨hx, k _ _ _ hp h1⟩
  · exact Or.inr ⟨hx, b, c, hB, k _ _ _ hp h1, k _ _ _ hB h2⟩

/-- The block's cells are all writable. -/
def Plain (w : World) (p : Nat) : Prop := ∃ cs t, w.heap[p]? = some (.cells cs t (0, 0))
theorem Plain.below {w w' : World} {p : Nat} (h : Plain w p) (hb : Below w.heap.size w w') : Plain w' p := by
  obtain ⟨cs, t, h⟩ := h
  have hlt : p < w.heap.size := by
    rcases Nat.lt_or_ge p w.heap.size with h' | h'
    · exact h'
    · rw [Array.getElem?_eq_none h'] at h; simp at h
  exact ⟨cs, t, (hb.block p hlt).trans h⟩
theorem Plain.store {w : World} {p g j : Nat} (h : Plain w p) (hg : g ≠ p) (v : Value) : Plain (w.setCell ⟨g, j, none⟩ v) p := by
  obtain ⟨cs, t, h⟩ := h
  exact ⟨cs, t, (Below.heap_setCell w _ v p (Ne.symm hg)).trans h⟩
theorem plain_new (w : World) (cs : Array Value) (t : TypeId) : Plain (w.alloc (.cells cs t)) w.heap.size := ⟨cs, t, heap_alloc_new w _⟩

theorem wrap_neg (x : Int) (h0 : x < 0) (h1 : -9223372036854775808 ≤ x) : IntKind.u64.wrap (-IntKind.u64.wrap x) = mag x := by
  simp [IntKind.wrap, IntKind.signed, IntKind.bits, mag]; omega

set_option maxHeartbeats 1000000 in
theorem new_any (x : Int) (h1 : -9223372036854775808 ≤ x) (h2 : x ≤ 9223372036854775807) (w : World) :
    Calls Try.prog 15 #[.int .i64 x] w fun e w' => ∃ p, e = .returned (.pointer (some ⟨p, 0, none⟩)) ∧ BigAt w.heap.size w' p x ∧ Plain w' p ∧ Below w.heap.size w w' := by
  by_cases hz : x = 0
  · subst hz
    go_enter Try.func15, Try.ntmps15
    go_wp2
    go_ret
    refine ⟨w.heap.size, rfl, ⟨Nat.le_refl _, ?_, Or.inl ⟨rfl, ?_⟩⟩, plain_new _ _ _, (Below.refl _ _).alloc (Nat.le_refl _) _⟩ <;> simp [go_sem]
  have hz1 : (x == 0) = false := by simpa using hz
  by_cases hn : x < 0
  · have HW : Hid (IntKind.u64.wrap (-IntKind.u64.wrap x) = mag x) := wrap_neg x hn h1
    go_enter Try.func15, Try.ntmps15
    go_wp2
    go_ret
    rw [HW.out]
    refine ⟨w.heap.size + 1, rfl, ⟨Nat.le_succ _, ?_, Or.inr ⟨hz, w.heap.size, 1, Nat.le_refl _, ?_, ?_⟩⟩, by simpa using plain_new (w.alloc _) _ _, ((Below.refl _ _).alloc (Nat.le_refl _) _).alloc (by simp) _⟩ <;> simp [go_sem, World.cell?_alloc_past, hn]
  · have hm : x = mag x := by unfold mag; omega
    have HM : Hid (x = mag x) := hm
    clear hm
    go_enter Try.func15, Try.ntmps15
    go_wp2
    go_ret
    refine ⟨w.heap.size + 1, rfl, ⟨Nat.le_succ _, ?_, Or.inr ⟨hz, w.heap.size, 1, Nat.le_refl _, ?_, ?_⟩⟩, by simpa using plain_new (w.alloc _) _ _, ((Below.refl _ _).alloc (Nat.le_refl _) _).alloc (by simp) _⟩
    · simp [go_sem, World.cell?_alloc_past, hn]
    · simp [go_sem, World.cell?_alloc_past]
    · rw [← HM.out]; simp [go_sem, World.cell?_alloc_past]

set_option maxHeartbeats 1000000 in
theorem low_zero (w : World) : Calls Try.prog 25 #[.slice none 0 0] w fun e w' => e = .returned (.int .u64 0) ∧ w = w' := by
  go_enter Try.func25, Try.ntmps25
  go_wp2
  go_ret
  exact ⟨rfl, rfl⟩
set_option maxHeartbeats 1000000 in
theorem low_one (b c : Nat) (u : Int) (w : World) (h : w.cell? ⟨b, 0, none⟩ = some (.int .u64 u)) : Calls Try.prog 25 #[.slice (some ⟨b, 0, none⟩) 1 c] w fun e w' => e = .returned (.int .u64 u) ∧ w = w' := by
  go_enter Try.func25, Try.ntmps25
  go_wp2
  go_ret
  exact ⟨rfl, rfl⟩

theorem wrap_min (m : Int) (hm : m = -9223372036854775808) : IntKind.i64.wrap (mag m) = m ∧ IntKind.i64.wrap (-m) = m := by
  subst hm; decide
theorem mag_small (x : Int) (h1 : -9223372036854775808 < x) (h2 : x ≤ 9223372036854775807) : 0 ≤ mag x ∧ mag x ≤ 9223372036854775807 ∧ (x < 0 → -mag x = x) ∧ (0 ≤ x → mag x = x) := by unfold mag; omega

set_option maxHeartbeats 1000000 in
theorem is64_any (p : Nat) (x : Int) (h1 : -9223372036854775808 ≤ x) (h2 : x ≤ 9223372036854775807) (B : Nat) (w : World) (hB : BigAt B w p x) :
    Calls Try.prog 12 #[.pointer (some ⟨p, 0, none⟩)] w fun e w' => e = .returned (.bool true) ∧ w = w' := by
  obtain ⟨_, c0, ⟨hx, c1⟩ | ⟨hx, b, c, _, c1, c2⟩⟩ := hB
  · clear hx
    go_enter Try.func12, Try.ntmps12
    go_wp2_with (go_at_call 25; refine (low_zero _).mono ?_; rintro e w' ⟨rfl, rfl⟩)
    go_ret
    exact ⟨rfl, rfl⟩
  · by_cases hmin : x = -9223372036854775808
    · have hneg : decide (x < 0) = true := by simp; omega
      obtain ⟨e1, e2⟩ := wrap_min x hmin
      have hx0 : x < 0 := by omega
      clear hmin h1 h2
      obtain ⟨u, hu⟩ : ∃ u, u = mag x := ⟨_, rfl⟩
      rw [← hu] at e1 c2
      rw [hneg] at c0
      clear hu hneg
      go_enter Try.func12, Try.ntmps12
      go_wp2_with (go_at_call 25; refine (low_one b c _ _ c2).mono ?_; rintro e w' ⟨rfl, rfl⟩)
      go_ret
      exact ⟨rfl, rfl⟩
    · obtain ⟨m1, m2, _, _⟩ := mag_small x (by omega) h2
      obtain ⟨u, hu⟩ : ∃ u, u = mag x := ⟨_, rfl⟩
      rw [← hu] at m1 m2 c2
      clear hu hmin
      go_enter Try.func12, Try.ntmps12
      go_wp2_with (go_at_call 25; refine (low_one b c _ _ c2).mono ?_; rintro e w' ⟨rfl, rfl⟩)
      go_ret
      exact ⟨rfl, rfl⟩

set_option maxHeartbeats 1000000 in
theorem int64_any (p : Nat) (x : Int) (h1 : -9223372036854775808 ≤ x) (h2 : x ≤ 9223372036854775807) (B : Nat) (w : World) (hB : BigAt B w p x) :
    Calls Try.prog 13 #[.pointer (some ⟨p, 0, none⟩)] w fun e w' => e = .returned (.int .i64 x) ∧ w = w' := by
  obtain ⟨_, c0, ⟨hx, c1⟩ | ⟨hx, b, c, _, c1, c2⟩⟩ := hB
  · subst hx
    have hd : decide ((0 : Int) < 0) = false := by decide
    rw [hd] at c0
    go_enter Try.func13, Try.ntmps13
    go_wp2_with (go_at_call 25; refine (low_zero _).mono ?_; rintro e w' ⟨rfl, rfl⟩)
    go_ret
    exact ⟨rfl, rfl⟩
  · by_cases hmin : x = -9223372036854775808
    · have hneg : decide (x < 0) = true := by simp; omega
      obtain ⟨e1, e2⟩ := wrap_min x hmin
      clear hmin h1 h2
      obtain ⟨u, hu⟩ : ∃ u, u = mag x := ⟨_, rfl⟩
      rw [← hu] at e1 c2
      rw [hneg] at c0
      clear hu hneg
      go_enter Try.func13, Try.ntmps13
      go_wp2_with (go_at_call 25; refine (low_one b c _ _ c2).mono ?_; rintro e w' ⟨rfl, rfl⟩)
      go_ret
      exact ⟨rfl, rfl⟩
    · obtain ⟨m1, m2, m3, m4⟩ := mag_small x (by omega) h2
      obtain ⟨u, hu⟩ : ∃ u, u = mag x := ⟨_, rfl⟩
      rw [← hu] at m1 m2 c2 m3 m4
      clear hu hmin
      by_cases hn : x < 0
      · have hd : decide (x < 0) = true := by simpa using hn
        rw [hd] at c0
        have HM : Hid (-u = x) := m3 hn
        clear m3 m4 hd
        go_enter Try.func13, Try.ntmps13
        go_wp2_with (go_at_call 25; refine (low_one b c _ _ c2).mono ?_; rintro e w' ⟨rfl, rfl⟩)
        go_ret
        rw [← HM.out]
        exact ⟨rfl, rfl⟩
      · have hd : decide (x < 0) = false := by simpa using hn
        rw [hd] at c0
        have HM : Hid (u = x) := m4 (by omega)
        clear m3 m4 hd
        go_enter Try.func13, Try.ntmps13
        go_wp2_with (go_at_call 25; refine (low_one b c _ _ c2).mono ?_; rintro e w' ⟨rfl, rfl⟩)
        go_ret
        rw [← HM.out]
        exact ⟨rfl, rfl⟩

/-! nat.make, nat.set, Int.Set -/
set_option maxHeartbeats 1000000 in
theorem make_zero (w : World) : Calls Try.prog 28 #[.slice none 0 0, .int .i64 0] w fun e w' => e = .returned (.slice none 0 0) ∧ w = w' := by
  go_enter Try.func28, Try.ntmps28
  go_wp2
  go_ret
  exact ⟨rfl, rfl⟩
theorem mk1 (w : World) : (Instr.makeSlice 39 (.int .i64 1) (.int .i64 1)).run Try.prog w = .ok (.slice (some ⟨w.heap.size, 0, none⟩) 1 1) (w.alloc (.cells #[.int .u64 0] 46)) := by kernel_rfl
set_option maxHeartbeats 1000000 in
theorem make_one (w : World) : Calls Try.prog 28 #[.slice none 0 0, .int .i64 1] w fun e w' => e = .returned (.slice (some ⟨w.heap.size, 0, none⟩) 1 1) ∧ w.alloc (.cells #[.int .u64 0] 46) = w' := by
  have hmk := mk1
  go_enter Try.func28, Try.ntmps28
  go_wp2
  go_ret
  exact ⟨rfl, rfl⟩
theorem size46 : (Try.prog.info? 46).map (·.size) = some 1 := by kernel_rfl
set_option maxHeartbeats 1000000 in
theorem set_zero (w : World) : Calls Try.prog 27 #[.slice none 0 0, .slice none 0 0] w fun e w' => e = .returned (.slice none 0 0) ∧ w = w' := by
  go_enter Try.func27, Try.ntmps27
  go_wp2_with (first | (go_at_call 28; refine (make_zero _).mono ?_; rintro e w' ⟨rfl, rfl⟩) | (refine wpList_copy_nothing rfl (.tmp 9) (.tmp 10) 39 39 rfl 46 Try.underlying39 size46 none none 0 0 0 0 rfl rfl rfl ?_))
  go_ret
  exact ⟨rfl, rfl⟩
set_option maxHeartbeats 1000000 in
theorem set_one (b c : Nat) (u : Int) (w : World) (h : w.cell? ⟨b, 0, none⟩ = some (.int .u64 u)) : Calls Try.prog 27 #[.slice none 0 0, .slice (some ⟨b, 0, none⟩) 1 c] w fun e w' =>
    e = .returned (.slice (some ⟨w.heap.size, 0, none⟩) 1 1) ∧ w'.cell? ⟨w.heap.size, 0, none⟩ = some (.int .u64 u) ∧ Below w.heap.size w w' := by
  have hsrc : ∀ j v, [Value.int .u64 u][j]? = some v → (w.alloc (.cells #[.int .u64 0] 46)).cell? ((⟨b, 0, none⟩ : Addr).add j) = some v := by
    intro j v hj
    match j, hj with
    | 0, hj => simp at hj; subst hj; exact keep h ((Below.refl _ _).alloc (Nat.le_refl _) _)
  go_enter Try.func27, Try.ntmps27
  go_wp2_with (first | (go_at_call 28; refine (make_one _).mono ?_; rintro e w' ⟨rfl, rfl⟩) | (refine wpList_copy_splice rfl (.tmp 9) (.tmp 10) 39 39 rfl 46 Try.underlying39 size46 (some ⟨w.heap.size, 0, none⟩) (some ⟨b, 0, none⟩) 1 1 1 c rfl rfl w.heap.size 0 [.int .u64 0] 46 (by simpa using heap_alloc_new w _) [.int .u64 u] (by simp) (fun _ => ⟨rfl, ⟨b, 0, none⟩, rfl, hsrc⟩) (by simp) (by intro v hv; simp at hv; subst hv; rfl) w.heap.size w ((Below.refl _ _).alloc (Nat.le_refl _) _) (Nat.le_refl _) ?_; intro w2 HG hB2))
  go_ret
  refine ⟨rfl, ?_, hB2⟩
  have := HG.out
  simp [splice] at this
  simp [World.cell?, this]
end Go.Proofs.Qxb6613723a.Pos
