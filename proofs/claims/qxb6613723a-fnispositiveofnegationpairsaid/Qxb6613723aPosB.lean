import Derived.Test.Qxb6613723aPosA
import Derived.Deep.RegionWith
import Derived.LaidEqlPtr
namespace Go.Proofs.Qxb6613723a.Pos
open Go.RowKit
set_option linter.unusedSimpArgs false
set_option linter.unusedVariables false
attribute [local go_sem ↓] Go.wp_at_zero Go.wp_at_succ

theorem run_neq_ptr_other {P : Program} (w : World) {tp te : TypeId} {j : TypeInfo} {a b : Addr} {ca cb : Array Value} {ta tb : TypeId} (hp : P.underlying tp = some (.pointer te)) (hte : P.info? te = some j) (hsz : j.size ≠ 0)
    (hne : a ≠ b) (ha : w.heap[a.block]? = some (.cells ca ta (0, 0))) (hb : w.heap[b.block]? = some (.cells cb tb (0, 0))) :
    (binOp .neq tp (.pointer (some a)) (.pointer (some b))).run P w = .ok (.bool true) w := by
  have h : ∀ d : Nat, (Op.equalIn (d + 1) tp (.pointer (some a)) (.pointer (some b))).run P w = .ok false w := fun d => by
    simp [Op.equalIn, run_underlying hp, sizeOf, typeInfo, hte, hsz, run_sameAddr_other w hne ha hb]
  simp only [binOp]
  simp [Op.equal, Op.maxDepth, h 9999]
theorem info41 : (Try.prog.info? 41).map (fun i => (i.zero, i.size, i.bytes)) = some (some (.agg #[.bool false, .slice none 0 0]), 2, 32) := by kernel_rfl
/-- z != x, z new. -/
theorem neq_new (q : Nat) (w : World) (hp : Plain w q) (o : Array Value) :
    (binOp .neq 23 (.pointer (some ⟨w.heap.size, 0, none⟩)) (.pointer (some ⟨q, 0, none⟩))).run Try.prog (w.alloc (.cells o 41)) = .ok (.bool true) (w.alloc (.cells o 41)) := by
  obtain ⟨i, hi, _, hz1, _⟩ := info_parts info41
  obtain ⟨cs, t, hc⟩ := hp.below ((Below.refl w.heap.size w).alloc (Nat.le_refl _) (.cells o 41))
  obtain ⟨cs', t', hc'⟩ := hp
  have hlt : q < w.heap.size := by
    rcases Nat.lt_or_ge q w.heap.size with h' | h'
    · exact h'
    · rw [Array.getElem?_eq_none h'] at hc'; simp at hc'
  exact run_neq_ptr_other _ Try.underlying23 hi (by rw [hz1]; decide) (by intro h; injection h with h _ _; omega) (heap_alloc_new w _) hc

set_option maxHeartbeats 2000000 in
theorem iset_zero (q : Nat) (w : World) (c0 : w.cell? ⟨q, 0, none⟩ = some (.bool false)) (c1 : w.cell? ⟨q, 1, none⟩ = some (.slice none 0 0)) (hpl : Plain w q) :
    Calls Try.prog 18 #[.pointer (some ⟨w.heap.size, 0, none⟩), .pointer (some ⟨q, 0, none⟩)] (w.alloc (.cells #[.bool false, .slice none 0 0] 41)) fun e w' =>
      e = .returned (.pointer (some ⟨w.heap.size, 0, none⟩)) ∧ BigAt w.heap.size w' w.heap.size 0 ∧ Below w.heap.size w w' := by
  have hq : q < w.heap.size := World.block_lt_of_cell? _ _ c0
  have hne : ¬ w.heap.size = q := by omega
  have hnq := neq_new q w hpl #[.bool false, .slice none 0 0]
  go_enter Try.func18, Try.ntmps18
  go_wp2
  go_region_with (go_at_call 27; refine (set_zero _).mono ?_; rintro e w' ⟨rfl, rfl⟩)
  all_goals
    go_wp2
    go_ret
    refine ⟨rfl, ⟨Nat.le_refl _, ?_, Or.inl ⟨rfl, ?_⟩⟩, ?_⟩
    · simp [go_sem]
    · simp [go_sem]
    · with_reducible repeat (first | exact Below.refl _ _ | refine Below.drew ?_ | refine Below.setCell ?_ (by simp) _ | refine Below.alloc ?_ (by simp) _)

theorem bcell {W w1 : World} (hb : Below W.heap.size W w1) : (∀ b o, b < W.heap.size → w1.cell? ⟨b, o, none⟩ = W.cell? ⟨b, o, none⟩) ∧ (∀ b o, b < W.heap.size → w1.frozen? ⟨b, o, none⟩ = W.frozen? ⟨b, o, none⟩) :=
  ⟨fun b o h => hb.cell (p := ⟨b, o, none⟩) h, fun b o h => hb.frozen (p := ⟨b, o, none⟩) h⟩

set_option maxHeartbeats 2000000 in
theorem iset_one (q b c : Nat) (u : Int) (ng : Bool) (w : World) (c0 : w.cell? ⟨q, 0, none⟩ = some (.bool ng)) (c1 : w.cell? ⟨q, 1, none⟩ = some (.slice (some ⟨b, 0, none⟩) 1 c)) (c2 : w.cell? ⟨b, 0, none⟩ = some (.int .u64 u)) (hpl : Plain w q) :
    Calls Try.prog 18 #[.pointer (some ⟨w.heap.size, 0, none⟩), .pointer (some ⟨q, 0, none⟩)] (w.alloc (.cells #[.bool false, .slice none 0 0] 41)) fun e w' =>
      e = .returned (.pointer (some ⟨w.heap.size, 0, none⟩)) ∧ w'.cell? ⟨w.heap.size, 0, none⟩ = some (.bool ng) ∧ w'.cell? ⟨w.heap.size, 1, none⟩ = some (.slice (some ⟨w.heap.size + 1, 0, none⟩) 1 1) ∧ w'.cell? ⟨w.heap.size + 1, 0, none⟩ = some (.int .u64 u) ∧ Below w.heap.size w w' := by
  have hq : q < w.heap.size := World.block_lt_of_cell? _ _ c0
  have hne : ¬ w.heap.size = q := by omega
  have hne2 : ¬ q = w.heap.size := by omega
  have hbq : b < w.heap.size := World.block_lt_of_cell? _ _ c2
  have hnq := neq_new q w hpl #[.bool false, .slice none 0 0]
  go_enter Try.func18, Try.ntmps18
  go_wp2
  have hcell : ∀ o, (w.alloc o).drew.cell? ⟨b, 0, none⟩ = some (.int .u64 u) := fun o => keep c2 (((Below.refl _ _).alloc (Nat.le_refl _) _).drew)
  have HC : Hid (∀ o, (w.alloc o).drew.cell? ⟨b, 0, none⟩ = some (.int .u64 u)) := hcell
  clear hcell
  go_region_with (go_at_call 27; refine (set_one b c u _ (HC.out _)).mono ?_; rintro e w' ⟨rfl, hn, hb⟩; obtain ⟨hc, hf⟩ := bcell hb; have hz : w.heap.size + 1 ≤ w'.heap.size := (by simpa using hb.size); simp only [World.size_drew, World.size_alloc] at hn)
  all_goals
    go_wp2
    go_ret
    refine ⟨rfl, ?_, ?_, ?_, ?_⟩
    · simp [go_sem, World.cell?_setCell_far, *]
    · simp [go_sem, World.cell?_setCell_far, *]
    · simp [go_sem, World.cell?_setCell_far, *]
    · have h0 : Below w.heap.size w w' := (((Below.refl _ _).alloc (Nat.le_refl _) _).drew).trans (hb.mono (by simp))
      with_reducible repeat (first | exact h0 | refine Below.drew ?_ | refine Below.setCell ?_ (by simp) _)

theorem iset_any (q : Nat) (x : Int) (B : Nat) (w : World) (hB : BigAt B w q x) (hpl : Plain w q) :
    Calls Try.prog 18 #[.pointer (some ⟨w.heap.size, 0, none⟩), .pointer (some ⟨q, 0, none⟩)] (w.alloc (.cells #[.bool false, .slice none 0 0] 41)) fun e w' =>
      e = .returned (.pointer (some ⟨w.heap.size, 0, none⟩)) ∧ BigAt w.heap.size w' w.heap.size x ∧ Below w.heap.size w w' := by
  obtain ⟨_, c0, ⟨hx, c1⟩ | ⟨hx, b, c, _, c1, c2⟩⟩ := hB
  · subst hx
    exact iset_zero q w c0 c1 hpl
  · refine (iset_one q b c (mag x) _ w c0 c1 c2 hpl).mono ?_
    rintro e w' ⟨rfl, d0, d1, d2, hb⟩
    exact ⟨rfl, ⟨Nat.le_refl _, d0, Or.inr ⟨hx, _, _, Nat.le_succ _, d1, d2⟩⟩, hb⟩

set_option maxHeartbeats 1000000 in
theorem ensure_any (p : Nat) (q : Addr) (w : World) (h : w.cell? ⟨p, 0, none⟩ = some (.pointer (some q))) : Calls Try.prog 17 #[.pointer (some ⟨p, 0, none⟩)] w fun e w' => e = .returned (.tuple #[]) ∧ w = w' := by
  go_enter Try.func17, Try.ntmps17
  go_wp2
  go_end0
  exact ⟨rfl, rfl⟩

theorem iset_at (q : Nat) (x : Int) (B : Nat) (w : World) (o : Obj) (hB : BigAt B w q x) (hpl : Plain w q) :
    Calls Try.prog 18 #[.pointer (some ⟨w.heap.size + 1, 0, none⟩), .pointer (some ⟨q, 0, none⟩)] ((w.alloc o).alloc (.cells #[.bool false, .slice none 0 0] 41)) fun e w' =>
      e = .returned (.pointer (some ⟨w.heap.size + 1, 0, none⟩)) ∧ BigAt (w.heap.size + 1) w' (w.heap.size + 1) x ∧ Below w.heap.size w w' := by
  have hA : Below w.heap.size w (w.alloc o) := (Below.refl _ _).alloc (Nat.le_refl _) _
  have HS := iset_any q x B (w.alloc o) (hB.below hA) (hpl.below hA)
  simp only [World.size_alloc] at HS
  refine HS.mono ?_
  rintro e w' ⟨rfl, hB', hb⟩
  exact ⟨rfl, hB', hA.trans (hb.mono (by omega))⟩

set_option maxHeartbeats 1000000 in
theorem coef_any (q : Nat) (x ex : Int) (B : Nat) (w : World) (hB : BigAt B w q x) (hpl : Plain w q) :
    Calls Try.prog 11 #[.agg #[.pointer (some ⟨q, 0, none⟩), .int .i32 ex]] w fun e w' => ∃ p, e = .returned (.pointer (some ⟨p, 0, none⟩)) ∧ BigAt w.heap.size w' p x ∧ Below w.heap.size w w' := by
  go_enter Try.func11, Try.ntmps11
  go_wp2_with (first | (go_at_call 17; refine (ensure_any _ ⟨q, 0, none⟩ _ ?_).mono ?_; (simp [go_sem]); rintro e w' ⟨rfl, rfl⟩) | (go_at_call 18; refine (iset_at q x B w _ hB hpl).mono ?_; rintro e w' ⟨rfl, hB', hb⟩))
  go_ret
  exact ⟨_, rfl, hB'.lower (Nat.le_succ _), hb⟩

set_option maxHeartbeats 1000000 in
theorem exp_any (v : Option Addr) (ex : Int) (w : World) : Calls Try.prog 14 #[.agg #[.pointer v, .int .i32 ex]] w fun e w' => e = .returned (.int .i32 ex) ∧ Below w.heap.size w w' := by
  go_enter Try.func14, Try.ntmps14
  go_wp2
  go_ret
  exact ⟨rfl, (Below.refl _ _).alloc (Nat.le_refl _) _⟩

set_option maxHeartbeats 1000000 in
theorem dnew_any (x ex : Int) (h1 : -9223372036854775808 ≤ x) (h2 : x ≤ 9223372036854775807) (w : World) :
    Calls Try.prog 8 #[.int .i64 x, .int .i32 ex] w fun e w' => ∃ q, e = .returned (.agg #[.pointer (some ⟨q, 0, none⟩), .int .i32 ex]) ∧ BigAt w.heap.size w' q x ∧ Plain w' q ∧ Below w.heap.size w w' := by
  go_enter Try.func8, Try.ntmps8
  go_wp2_with (go_at_call 15; refine (new_any x h1 h2 _).mono ?_; rintro e w' ⟨q, rfl, hB, hP, hb⟩; obtain ⟨hc, hf⟩ := bcell hb; have hz : w.heap.size < w'.heap.size := (by have := hb.size; simp at this; omega))
  refine bodyPost_ret (v := .agg #[.pointer (some ⟨q, 0, none⟩), .int .i32 ex]) (by simp [results, Try.results8, go_sem, hc, hz]) rfl ⟨q, rfl, ?_, ?_, ?_⟩
  · exact ((hB.store (by simp) _).store (by simp) _).lower (by simp)
  · have hq : w.heap.size ≠ q := by have := hB.1; simp at this; omega
    exact (hP.store hq _).store hq _
  · have h0 : Below w.heap.size w w' := ((Below.refl _ _).alloc (Nat.le_refl _) _).trans (hb.mono (by simp))
    with_reducible repeat (first | exact h0 | refine Below.setCell ?_ (by simp) _)
end Go.Proofs.Qxb6613723a.Pos
