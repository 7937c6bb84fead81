import Derived.Test.Qxb6615895aRows
import Derived.WalkKit
import Derived.WalkSpells
import Derived.WalkLawsBesides
import Derived.StillTactics
import Derived.Laws.Pointers
import Derived.Deep.RegionHeld3
import Derived.Deep.DrawnRows
import Derived.RowKit3
namespace Go.Proofs.Qxb6615895a.Sen
open Go.RowKit
set_option linter.unusedSimpArgs false
set_option linter.unusedVariables false
attribute [local go_sem ↓] Go.wp_at_zero Go.wp_at_succ

theorem bcell {W w1 : World} (hb : Below W.heap.size W w1) : (∀ b o, b < W.heap.size → w1.cell? ⟨b, o, none⟩ = W.cell? ⟨b, o, none⟩) ∧ (∀ b o, b < W.heap.size → w1.frozen? ⟨b, o, none⟩ = W.frozen? ⟨b, o, none⟩) :=
  ⟨fun b o h => hb.cell (p := ⟨b, o, none⟩) h, fun b o h => hb.frozen (p := ⟨b, o, none⟩) h⟩

/-- The value of type any that a marker is: absent, or a bool. -/
def ifv : Option Bool → Value
  | none => .nilIface
  | some b => .iface 4 (.bool b)
def isT : Option Bool → Bool
  | some true => true
  | _ => false
def down : Option Bool → Option Bool
  | some true => some true
  | _ => none

theorem as0_4 (w : World) : (Instr.typeAssert .nilIface 25 4 true).run Try.prog w = .ok (.tuple #[.bool false, .bool false]) w := by kernel_rfl
theorem as4_4 (v : Value) (w : World) : (Instr.typeAssert (.iface 4 v) 25 4 true).run Try.prog w = .ok (.tuple #[v, .bool true]) w := by kernel_rfl
theorem as47_4 (v : Value) (w : World) : (Instr.typeAssert (.iface 47 v) 25 4 true).run Try.prog w = .ok (.tuple #[.bool false, .bool false]) w := by kernel_rfl
theorem as0_58 (w : World) : (Instr.typeAssert .nilIface 25 58 true).run Try.prog w = .ok (.tuple #[.slice none 0 0, .bool false]) w := by kernel_rfl
theorem as4_58 (v : Value) (w : World) : (Instr.typeAssert (.iface 4 v) 25 58 true).run Try.prog w = .ok (.tuple #[.slice none 0 0, .bool false]) w := by kernel_rfl
theorem as47_58 (v : Value) (w : World) : (Instr.typeAssert (.iface 47 v) 25 58 true).run Try.prog w = .ok (.tuple #[.slice none 0 0, .bool false]) w := by kernel_rfl
theorem as0_47 (w : World) : (Instr.typeAssert .nilIface 25 47 true).run Try.prog w = .ok (.tuple #[.slice none 0 0, .bool false]) w := by kernel_rfl
theorem as4_47 (v : Value) (w : World) : (Instr.typeAssert (.iface 4 v) 25 47 true).run Try.prog w = .ok (.tuple #[.slice none 0 0, .bool false]) w := by kernel_rfl
theorem as47_47 (v : Value) (w : World) : (Instr.typeAssert (.iface 47 v) 25 47 true).run Try.prog w = .ok (.tuple #[v, .bool true]) w := by kernel_rfl
attribute [local go_sem] as0_4 as4_4 as47_4 as0_58 as4_58 as47_58 as0_47 as4_47 as47_47

set_option maxHeartbeats 400000 in
theorem isTrue_ifv (o : Option Bool) (w : World) : Calls Try.prog 17 #[ifv o] w fun e w' => e = .returned (.bool (isT o)) ∧ w' = w := by
  rcases o with _ | _ | _ <;> unfold ifv isT
  all_goals
    go_enter Try.func17, Try.ntmps17
    go_wp2
    go_ret
    exact ⟨rfl, rfl⟩

set_option maxHeartbeats 400000 in
theorem isTrue_obj (v : Value) (w : World) : Calls Try.prog 17 #[.iface 47 v] w fun e w' => e = .returned (.bool false) ∧ w' = w := by
  go_enter Try.func17, Try.ntmps17
  go_wp2
  go_ret
  exact ⟨rfl, rfl⟩

set_option maxHeartbeats 400000 in
theorem isNil_ifv (x y : Value) (o : Option Bool) (w : World) : Calls Try.prog 10 #[.agg #[x, y, ifv o]] w fun e w' => e = .returned (.bool o.isNone) ∧ Below w.heap.size w w' := by
  rcases o with _ | b <;> unfold ifv
  all_goals
    go_enter Try.func10, Try.ntmps10
    go_wp2
    go_ret
    exact ⟨rfl, (Below.refl _ _).alloc (Nat.le_refl _) _⟩

set_option maxHeartbeats 400000 in
theorem isSens_ifv (x y : Value) (o : Option Bool) (w : World) : Calls Try.prog 9 #[.agg #[x, y, ifv o]] w fun e w' => e = .returned (.bool (isT o)) ∧ Below w.heap.size w w' := by
  go_enter Try.func9, Try.ntmps9
  go_wp2_with (go_at_call 17; refine (isTrue_ifv o _).mono ?_; rintro e w' ⟨rfl, rfl⟩)
  go_ret
  exact ⟨rfl, (Below.refl _ _).alloc (Nat.le_refl _) _⟩

set_option maxHeartbeats 400000 in
theorem isSens_obj (x y v : Value) (w : World) : Calls Try.prog 9 #[.agg #[x, y, .iface 47 v]] w fun e w' => e = .returned (.bool false) ∧ Below w.heap.size w w' := by
  go_enter Try.func9, Try.ntmps9
  go_wp2_with (go_at_call 17; refine (isTrue_obj _ _).mono ?_; rintro e w' ⟨rfl, rfl⟩)
  go_ret
  exact ⟨rfl, (Below.refl _ _).alloc (Nat.le_refl _) _⟩

/-- A step below a bool marker or an absent one that is not 'true' leads nowhere. -/
theorem child_ifv (nm : ByteArray) (ix : Int) (isIx : Bool) (o : Option Bool) (w : World) :
    Calls Try.prog 20 #[.agg #[.string nm, .int .i64 ix, .bool isIx], ifv o] w fun e w' => e = .returned (.tuple #[.nilIface, .bool false]) ∧ Below w.heap.size w w' := by
  rcases o with _ | b <;> rcases isIx <;> unfold ifv
  all_goals
    go_enter Try.func20, Try.ntmps20
    go_wp2
    go_ret2
    exact ⟨rfl, (Below.refl _ _).alloc (Nat.le_refl _) _⟩

theorem part_ifv (nm : ByteArray) (ix : Int) (isIx : Bool) (o : Option Bool) (w : World) :
    Calls Try.prog 16 #[ifv o, .agg #[.string nm, .int .i64 ix, .bool isIx]] w fun e w' => e = .returned (ifv (down o)) ∧ Below w.heap.size w w' := by
  have hT := isTrue_ifv o
  by_cases h : isT o = true
  · have ho : o = some true := by rcases o with _ | _ | _ <;> simp_all [isT]
    subst ho
    go_enter Try.func16, Try.ntmps16
    go_wp2_with (go_at_call 17; refine (isTrue_ifv _ _).mono ?_; rintro e w' ⟨rfl, rfl⟩)
    go_ret
    exact ⟨rfl, (Below.refl _ _).alloc (Nat.le_refl _) _⟩
  · have ho : down o = none := by rcases o with _ | _ | _ <;> simp_all [isT, down]
    have hf : isT o = false := by simpa using h
    clear hT h
    rw [ho]
    go_enter Try.func16, Try.ntmps16
    go_wp2_with (first | (go_at_call 17; refine (isTrue_ifv o _).mono ?_; rintro e w' ⟨rfl, rfl⟩) | (go_at_call 20; refine (child_ifv nm ix isIx o _).mono ?_; rintro e w' ⟨rfl, hb⟩))
    go_ret
    exact ⟨rfl, ((Below.refl _ _).alloc (Nat.le_refl _) _).trans (hb.mono (by simp))⟩

theorem part_nil (nm : ByteArray) (ix : Int) (isIx : Bool) (w : World) :
    Calls Try.prog 16 #[.nilIface, .agg #[.string nm, .int .i64 ix, .bool isIx]] w fun e w' => e = .returned .nilIface ∧ Below w.heap.size w w' := part_ifv nm ix isIx none w
theorem part_false (nm : ByteArray) (ix : Int) (isIx : Bool) (w : World) :
    Calls Try.prog 16 #[.iface 4 (.bool false), .agg #[.string nm, .int .i64 ix, .bool isIx]] w fun e w' => e = .returned .nilIface ∧ Below w.heap.size w w' := part_ifv nm ix isIx (some false) w
theorem part_true (nm : ByteArray) (ix : Int) (isIx : Bool) (w : World) :
    Calls Try.prog 16 #[.iface 4 (.bool true), .agg #[.string nm, .int .i64 ix, .bool isIx]] w fun e w' => e = .returned (.iface 4 (.bool true)) ∧ Below w.heap.size w w' := part_ifv nm ix isIx (some true) w

set_option maxHeartbeats 400000 in
theorem partM_ifv (x y : Value) (nm : ByteArray) (ix : Int) (isIx : Bool) (o : Option Bool) (w : World) :
    Calls Try.prog 8 #[.agg #[x, y, ifv o], .string nm, .int .i64 ix, .bool isIx] w fun e w' => e = .returned (.agg #[.nilIface, .nilIface, ifv (down o)]) ∧ Below w.heap.size w w' := by
  rcases o with _ | _ | _ <;> unfold ifv down
  · go_enter Try.func8, Try.ntmps8
    go_wp2_with (go_at_call 16; refine (part_nil nm ix isIx _).mono ?_; rintro e w' ⟨rfl, hb⟩; obtain ⟨hc, hf⟩ := bcell hb; have hz : w.heap.size + 1 < w'.heap.size := by have := hb.size; simp at this; omega)
    refine bodyPost_ret (v := .agg #[.nilIface, .nilIface, .nilIface]) (by simp [results, Try.results8, go_sem, hc, hz]) rfl ⟨rfl, ?_⟩
    have h0 : Below w.heap.size w w' := (((Below.refl _ _).alloc (Nat.le_refl _) _).alloc (by simp) _).trans (hb.mono (by simp; omega))
    with_reducible repeat (first | exact h0 | refine Below.setCell ?_ (by simp) _)
  · go_enter Try.func8, Try.ntmps8
    go_wp2_with (go_at_call 16; refine (part_false nm ix isIx _).mono ?_; rintro e w' ⟨rfl, hb⟩; obtain ⟨hc, hf⟩ := bcell hb; have hz : w.heap.size + 1 < w'.heap.size := by have := hb.size; simp at this; omega)
    refine bodyPost_ret (v := .agg #[.nilIface, .nilIface, .nilIface]) (by simp [results, Try.results8, go_sem, hc, hz]) rfl ⟨rfl, ?_⟩
    have h0 : Below w.heap.size w w' := (((Below.refl _ _).alloc (Nat.le_refl _) _).alloc (by simp) _).trans (hb.mono (by simp; omega))
    with_reducible repeat (first | exact h0 | refine Below.setCell ?_ (by simp) _)
  · go_enter Try.func8, Try.ntmps8
    go_wp2_with (go_at_call 16; refine (part_true nm ix isIx _).mono ?_; rintro e w' ⟨rfl, hb⟩; obtain ⟨hc, hf⟩ := bcell hb; have hz : w.heap.size + 1 < w'.heap.size := by have := hb.size; simp at this; omega)
    refine bodyPost_ret (v := .agg #[.nilIface, .nilIface, .iface 4 (.bool true)]) (by simp [results, Try.results8, go_sem, hc, hz]) rfl ⟨rfl, ?_⟩
    have h0 : Below w.heap.size w w' := (((Below.refl _ _).alloc (Nat.le_refl _) _).alloc (by simp) _).trans (hb.mono (by simp; omega))
    with_reducible repeat (first | exact h0 | refine Below.setCell ?_ (by simp) _)

end Go.Proofs.Qxb6615895a.Sen
