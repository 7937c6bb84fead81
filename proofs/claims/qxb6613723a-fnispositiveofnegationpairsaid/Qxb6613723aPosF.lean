import Derived.Test.Qxb6613723aPosB
namespace Go.Proofs.Qxb6613723a.Pos
open Go.RowKit
set_option linter.unusedSimpArgs false
set_option linter.unusedVariables false
attribute [local go_sem ↓] Go.wp_at_zero Go.wp_at_succ

/-! sign, IsZero, IsNegative, isPositive -/
/-- The sign. -/
def sg (x : Int) : Int := if x < 0 then -1 else if 0 < x then 1 else 0
set_option maxHeartbeats 1000000 in
theorem sign_small (x ex : Int) (w : World) : Calls Try.prog 16 #[.agg #[.int .i64 x, .int .i32 ex, .pointer none]] w fun e w' => e = .returned (.int .i64 (sg x)) ∧ Below w.heap.size w w' := by
  by_cases h1 : x < 0
  · have hs : sg x = -1 := by simp [sg, h1]
    have HS : Hid (sg x = -1) := hs
    clear hs
    go_enter Try.func16, Try.ntmps16
    go_wp2
    go_ret
    rw [HS.out]
    exact ⟨rfl, (Below.refl _ _).alloc (Nat.le_refl _) _⟩
  by_cases h2 : 0 < x
  · have hs : sg x = 1 := by simp [sg, h1, h2]
    have HS : Hid (sg x = 1) := hs
    clear hs
    go_enter Try.func16, Try.ntmps16
    go_wp2
    go_ret
    rw [HS.out]
    exact ⟨rfl, (Below.refl _ _).alloc (Nat.le_refl _) _⟩
  · have hs : sg x = 0 := by simp [sg, h1, h2]
    have HS : Hid (sg x = 0) := hs
    clear hs
    go_enter Try.func16, Try.ntmps16
    go_wp2
    go_ret
    rw [HS.out]
    exact ⟨rfl, (Below.refl _ _).alloc (Nat.le_refl _) _⟩
set_option maxHeartbeats 1000000 in
theorem bsign_neg (p : Nat) (x : Int) (hx : x < 0) (B : Nat) (w : World) (hB : BigAt B w p x) : Calls Try.prog 26 #[.pointer (some ⟨p, 0, none⟩)] w fun e w' => e = .returned (.int .i64 (-1)) ∧ w = w' := by
  have hd : decide (x < 0) = true := by simpa using hx
  obtain ⟨_, c0, ⟨hx', c1⟩ | ⟨hx', b, c, _, c1, c2⟩⟩ := hB
  · omega
  · rw [hd] at c0
    clear hd
    go_enter Try.func26, Try.ntmps26
    go_wp2
    go_ret
    exact ⟨rfl, rfl⟩
set_option maxHeartbeats 1000000 in
theorem sign_neg (p : Nat) (x ex : Int) (hx : x < 0) (B : Nat) (w : World) (hB : BigAt B w p x) : Calls Try.prog 16 #[.agg #[.int .i64 0, .int .i32 ex, .pointer (some ⟨p, 0, none⟩)]] w fun e w' => e = .returned (.int .i64 (-1)) ∧ Below w.heap.size w w' := by
  have hB2 : ∀ o, BigAt B (w.alloc o) p x := fun o => hB.below ((Below.refl _ _).alloc (Nat.le_refl _) _)
  have HB : Hid (∀ o, BigAt B (w.alloc o) p x) := hB2
  clear hB hB2
  go_enter Try.func16, Try.ntmps16
  go_wp2_with (go_at_call 26; refine (bsign_neg p x hx B _ (HB.out _)).mono ?_; rintro e w' ⟨rfl, rfl⟩)
  go_ret
  exact ⟨rfl, (Below.refl _ _).alloc (Nat.le_refl _) _⟩

/-- What call 16 answers on this Exact value, from any world above w0: sign sgn. -/
def SignIs (w0 : World) (v : Value) (s : Int) : Prop := ∀ w', Below w0.heap.size w0 w' → Calls Try.prog 16 #[v] w' fun e w'' => e = .returned (.int .i64 s) ∧ Below w'.heap.size w' w''
theorem SignIs.small (w0 : World) (x ex : Int) : SignIs w0 (.agg #[.int .i64 x, .int .i32 ex, .pointer none]) (sg x) := fun w' _ => sign_small x ex w'
theorem SignIs.big (w0 : World) (p : Nat) (x ex : Int) (hx : x < 0) (B : Nat) (hB : BigAt B w0 p x) : SignIs w0 (.agg #[.int .i64 0, .int .i32 ex, .pointer (some ⟨p, 0, none⟩)]) (-1) :=
  fun w' hb => sign_neg p x ex hx B w' (hB.below hb)
theorem SignIs.above {w0 w : World} {v : Value} {s : Int} (h : SignIs w0 v s) (hb : Below w0.heap.size w0 w) : SignIs w v s :=
  fun w' hb' => h w' (hb.trans (hb'.mono hb.size))
set_option maxHeartbeats 1000000 in
theorem zero_any (a b : Int) (c : Option Addr) (s : Int) (w : World) (h : SignIs w (.agg #[.int .i64 a, .int .i32 b, .pointer c]) s) :
    Calls Try.prog 9 #[.agg #[.int .i64 a, .int .i32 b, .pointer c]] w fun e w' => e = .returned (.bool (s == 0)) ∧ Below w.heap.size w w' := by
  have HS : Hid (SignIs w (.agg #[.int .i64 a, .int .i32 b, .pointer c]) s) := h
  clear h
  have H0 : Hid (∀ o, Below w.heap.size w (w.alloc o)) := fun o => (Below.refl _ _).alloc (Nat.le_refl _) _
  go_enter Try.func9, Try.ntmps9
  go_wp2_with (go_at_call 16; refine (HS.out _ (H0.out _)).mono ?_; rintro e w' ⟨rfl, hb⟩)
  go_ret
  exact ⟨rfl, (H0.out _).trans (hb.mono (by simp))⟩
set_option maxHeartbeats 1000000 in
theorem neg_any (a b : Int) (c : Option Addr) (s : Int) (w : World) (h : SignIs w (.agg #[.int .i64 a, .int .i32 b, .pointer c]) s) :
    Calls Try.prog 10 #[.agg #[.int .i64 a, .int .i32 b, .pointer c]] w fun e w' => e = .returned (.bool (decide (s < 0))) ∧ Below w.heap.size w w' := by
  have HS : Hid (SignIs w (.agg #[.int .i64 a, .int .i32 b, .pointer c]) s) := h
  clear h
  have H0 : Hid (∀ o, Below w.heap.size w (w.alloc o)) := fun o => (Below.refl _ _).alloc (Nat.le_refl _) _
  go_enter Try.func10, Try.ntmps10
  go_wp2_with (go_at_call 16; refine (HS.out _ (H0.out _)).mono ?_; rintro e w' ⟨rfl, hb⟩)
  go_ret
  exact ⟨rfl, (H0.out _).trans (hb.mono (by simp))⟩
set_option maxHeartbeats 1000000 in
theorem pos_any (a b : Int) (c : Option Addr) (s : Int) (w : World) (h : SignIs w (.agg #[.int .i64 a, .int .i32 b, .pointer c]) s) :
    Calls Try.prog 6 #[.agg #[.int .i64 a, .int .i32 b, .pointer c]] w fun e w' => e = .returned (.bool (decide (0 < s))) ∧ Below w.heap.size w w' := by
  have HS : Hid (SignIs w (.agg #[.int .i64 a, .int .i32 b, .pointer c]) s) := h
  clear h
  have H0 : Hid (∀ o, Below w.heap.size w (w.alloc o)) := fun o => (Below.refl _ _).alloc (Nat.le_refl _) _
  by_cases hs : (s == 0) = true
  · have hd : decide (0 < s) = false := by simp at hs; simp [hs]
    go_enter Try.func6, Try.ntmps6
    go_wp2_with (go_at_call 9; refine (zero_any a b c s _ (HS.out.above (H0.out _))).mono ?_; rintro e w' ⟨rfl, hb⟩; rw [hs]; have hc := (bcell hb).1)
    go_ret
    rw [hd]
    exact ⟨rfl, (H0.out _).trans (hb.mono (by simp))⟩
  · have hs : (s == 0) = false := by simpa using hs
    have hd : decide (0 < s) = !decide (s < 0) := by simp at hs; by_cases h : s < 0 <;> simp [h] <;> omega
    go_enter Try.func6, Try.ntmps6
    go_wp2_with (go_at_call 9; refine (zero_any a b c s _ (HS.out.above (H0.out _))).mono ?_; rintro e w' ⟨rfl, hb⟩; rw [hs]; have hc := (bcell hb).1)
    refine (neg_any a b c s _ (HS.out.above ((H0.out _).trans (hb.mono (by simp))))).mono ?_
    rintro e w'' ⟨rfl, hb2⟩
    go_wp2
    go_ret
    rw [hd]
    exact ⟨rfl, ((H0.out _).trans (hb.mono (by simp))).trans (hb2.mono (by have := hb.size; simp at this; omega))⟩
set_option maxHeartbeats 1000000 in
theorem zpos_any (a b : Int) (c : Option Addr) (s : Int) (w : World) (h : SignIs w (.agg #[.int .i64 a, .int .i32 b, .pointer c]) s) :
    Calls Try.prog 4 #[.agg #[.int .i64 a, .int .i32 b, .pointer c]] w fun e w' => e = .returned (.bool (decide (0 < s))) ∧ Below w.heap.size w w' := by
  have HS : Hid (SignIs w (.agg #[.int .i64 a, .int .i32 b, .pointer c]) s) := h
  clear h
  have H0 : Hid (∀ o, Below w.heap.size w (w.alloc o)) := fun o => (Below.refl _ _).alloc (Nat.le_refl _) _
  go_enter Try.func4, Try.ntmps4
  go_wp2_with (go_at_call 6; refine (pos_any a b c s _ (HS.out.above (H0.out _))).mono ?_; rintro e w' ⟨rfl, hb⟩)
  go_ret
  exact ⟨rfl, (H0.out _).trans (hb.mono (by simp))⟩
end Go.Proofs.Qxb6613723a.Pos
