import Derived.Test.Qxb6615895aSenA
import Derived.LoopTactic
namespace Go.Proofs.Qxb6615895a.Sen
open Go.RowKit
set_option linter.unusedSimpArgs false
set_option linter.unusedVariables false
attribute [local go_sem ↓] Go.wp_at_zero Go.wp_at_succ
attribute [local go_sem] as0_4 as4_4 as47_4 as0_58 as4_58 as47_58 as0_47 as4_47 as47_47

/-- What Get finds: the value of the first member of that name. -/
def find (nm : ByteArray) : List ByteArray → List Bool → Option Bool
  | s :: ss, b :: bs => if s.toList == nm.toList then some b else find nm ss bs
  | _, _ => none

theorem find_drop (nm : ByteArray) (ss : List ByteArray) (bs : List Bool) (k : Nat) (h1 : k < ss.length) (h2 : k < bs.length) :
    find nm (ss.drop k) (bs.drop k) = if ss[k].toList == nm.toList then some bs[k] else find nm (ss.drop (k + 1)) (bs.drop (k + 1)) := by
  rw [List.drop_eq_getElem_cons h1, List.drop_eq_getElem_cons h2, find]
theorem find_end (nm : ByteArray) (ss : List ByteArray) (bs : List Bool) (k : Nat) (h1 : ss.length ≤ k) : find nm (ss.drop k) (bs.drop k) = none := by
  rw [List.drop_eq_nil_of_le h1]; cases bs.drop k <;> rfl
theorem ret_pair {o : Option Bool} {b : Bool} (h : o = some b) : Ending.returned (.tuple #[.iface 4 (.bool b), .bool true]) = .returned (.tuple #[ifv o, .bool o.isSome]) := by subst h; rfl
theorem ret_none {o : Option Bool} (h : o = none) : Ending.returned (.tuple #[.nilIface, .bool false]) = .returned (.tuple #[ifv o, .bool o.isSome]) := by subst h; rfl

/-- The members lie in block g: two cells each. -/
def Members (w : World) (g : Nat) (ss : List ByteArray) (bs : List Bool) : Prop :=
  ∀ i, i < ss.length → w.cell? ⟨g, i * 2, none⟩ = some (.string (ss.getD i ByteArray.empty)) ∧ w.cell? ⟨g, i * 2 + 1, none⟩ = some (.iface 4 (.bool (bs.getD i false)))

set_option maxHeartbeats 1000000 in
theorem get_any (g n : Nat) (ss : List ByteArray) (bs : List Bool) (nm : ByteArray) (w : World) (hn : ss.length = n) (hm : bs.length = n) (hb : n ≤ 1048576) (hM : Members w g ss bs) :
    Calls Try.prog 21 #[.slice (some ⟨g, 0, none⟩) n n, .string nm] w fun e w' => e = .returned (.tuple #[ifv (find nm ss bs), .bool (find nm ss bs).isSome]) ∧ Below w.heap.size w w' := by
  go_enter Try.func21, Try.ntmps21
  go_wp2
  go_loopw [10] (fun i wr => ∃ k : Nat, k ≤ n ∧ i = .int .i64 k ∧ find nm ss bs = find nm (ss.drop k) (bs.drop k) ∧ Below w.heap.size w wr) (fun i _ => n - (intOf i).toNat)
  case atStart => exact ⟨0, Nat.zero_le _, rfl, by simp, Below.refl _ _⟩
  case round =>
    obtain ⟨k, hk, rfl, hf, hbel⟩ := hrel
    by_cases hlt : k < n
    · have hc0 := (hM k (by omega)).1
      have hc1 := (hM k (by omega)).2
      have hgb : g < w.heap.size := World.block_lt_of_cell? _ _ hc0
      have hd0 : wr.cell? ⟨g, k * 2, none⟩ = some (.string (ss.getD k ByteArray.empty)) := (hbel.cell (by exact hgb)).trans hc0
      have hd1 : wr.cell? ⟨g, k * 2 + 1, none⟩ = some (.iface 4 (.bool (bs.getD k false))) := (hbel.cell (by exact hgb)).trans hc1
      have HF : Hid (find nm ss bs = find nm (ss.drop k) (bs.drop k)) := hf
      clear hf hc0 hc1 hM
      go_wp2
      · go_ret2
        have ht : (ss[k].toList == nm.toList) = true := by assumption
        exact ⟨ret_pair (by rw [HF.out, find_drop nm ss bs k (by omega) (by omega), if_pos ht]), hbel.alloc hbel.size _⟩
      · have ht : (ss[k].toList == nm.toList) = false := by assumption
        go_roundw
        case rel => exact ⟨k + 1, by omega, by go_num, by rw [HF.out, find_drop nm ss bs k (by omega) (by omega), if_neg (by rw [ht]; simp)], hbel.alloc hbel.size _⟩
        case measure => simp [intOf]; omega
    · have HF : Hid (find nm ss bs = find nm (ss.drop k) (bs.drop k)) := hf
      clear hf hM
      go_wp2
      go_ret2
      exact ⟨ret_none (by rw [HF.out, find_end nm ss bs k (by omega)]), hbel⟩

theorem Members.below {w w' : World} {g : Nat} {ss : List ByteArray} {bs : List Bool} (h : Members w g ss bs) (hb : Below w.heap.size w w') : Members w' g ss bs := fun i hi => by
  have h1 := h i hi
  have hg : g < w.heap.size := World.block_lt_of_cell? _ _ h1.1
  exact ⟨(hb.cell (by exact hg)).trans h1.1, (hb.cell (by exact hg)).trans h1.2⟩

/-- What an object marker says of the part that a step leads to. -/
def partO (nm : ByteArray) (isIx : Bool) (ss : List ByteArray) (bs : List Bool) : Option Bool := if isIx then none else find nm ss bs

/-- A step's child of an object marker. -/
theorem child_obj (g n : Nat) (ss : List ByteArray) (bs : List Bool) (nm : ByteArray) (ix : Int) (isIx : Bool) (w : World) (hn : ss.length = n) (hm : bs.length = n) (hb : n ≤ 1048576) (hM : Members w g ss bs) :
    Calls Try.prog 20 #[.agg #[.string nm, .int .i64 ix, .bool isIx], .iface 47 (.slice (some ⟨g, 0, none⟩) n n)] w fun e w' =>
      e = .returned (.tuple #[ifv (partO nm isIx ss bs), .bool (partO nm isIx ss bs).isSome]) ∧ Below w.heap.size w w' := by
  rcases isIx with _ | _ <;> unfold partO
  · go_enter Try.func20, Try.ntmps20
    go_wp2_with (go_at_call 21; refine (get_any g n ss bs nm _ hn hm hb ?_).mono ?_; (intro i hi; have h1 := (hM i hi).1; have h2 := (hM i hi).2; have h3 := World.block_lt_of_cell? _ _ h1; simp at h3; constructor <;> simp [go_sem, World.cell?_alloc_past, *]); rintro e w' ⟨rfl, hbb⟩)
    go_ret2
    exact ⟨rfl, ((Below.refl _ _).alloc (Nat.le_refl _) _).trans (hbb.mono (by simp))⟩
  · go_enter Try.func20, Try.ntmps20
    go_wp2
    go_ret2
    exact ⟨rfl, (Below.refl _ _).alloc (Nat.le_refl _) _⟩


theorem part_obj (g n : Nat) (ss : List ByteArray) (bs : List Bool) (nm : ByteArray) (ix : Int) (isIx : Bool) (w : World) (hn : ss.length = n) (hm : bs.length = n) (hb : n ≤ 1048576) (hM : Members w g ss bs) :
    Calls Try.prog 16 #[.iface 47 (.slice (some ⟨g, 0, none⟩) n n), .agg #[.string nm, .int .i64 ix, .bool isIx]] w fun e w' =>
      e = .returned (ifv (partO nm isIx ss bs)) ∧ Below w.heap.size w w' := by
  go_enter Try.func16, Try.ntmps16
  go_wp2_with (first | (go_at_call 17; refine (isTrue_obj _ _).mono ?_; rintro e w' ⟨rfl, rfl⟩) | (go_at_call 20; refine (child_obj g n ss bs nm ix isIx _ hn hm hb (hM.below ((Below.refl _ _).alloc (Nat.le_refl _) _))).mono ?_; rintro e w' ⟨rfl, hbb⟩))
  go_ret
  exact ⟨rfl, ((Below.refl _ _).alloc (Nat.le_refl _) _).trans (hbb.mono (by simp))⟩

theorem part_obj_none (g n : Nat) (ss : List ByteArray) (bs : List Bool) (nm : ByteArray) (ix : Int) (isIx : Bool) (w : World) (hn : ss.length = n) (hm : bs.length = n) (hb : n ≤ 1048576) (hM : Members w g ss bs) (ho : partO nm isIx ss bs = none) :
    Calls Try.prog 16 #[.iface 47 (.slice (some ⟨g, 0, none⟩) n n), .agg #[.string nm, .int .i64 ix, .bool isIx]] w fun e w' =>
      e = .returned .nilIface ∧ Below w.heap.size w w' := by
  have h := part_obj g n ss bs nm ix isIx w hn hm hb hM
  rw [ho] at h
  exact h
theorem part_obj_some (g n : Nat) (ss : List ByteArray) (bs : List Bool) (nm : ByteArray) (ix : Int) (isIx b : Bool) (w : World) (hn : ss.length = n) (hm : bs.length = n) (hb : n ≤ 1048576) (hM : Members w g ss bs) (ho : partO nm isIx ss bs = some b) :
    Calls Try.prog 16 #[.iface 47 (.slice (some ⟨g, 0, none⟩) n n), .agg #[.string nm, .int .i64 ix, .bool isIx]] w fun e w' =>
      e = .returned (.iface 4 (.bool b)) ∧ Below w.heap.size w w' := by
  have h := part_obj g n ss bs nm ix isIx w hn hm hb hM
  rw [ho] at h
  exact h

set_option maxHeartbeats 1000000 in
theorem partM_obj (x y : Value) (g n : Nat) (ss : List ByteArray) (bs : List Bool) (nm : ByteArray) (ix : Int) (isIx : Bool) (w : World) (hn : ss.length = n) (hm : bs.length = n) (hnb : n ≤ 1048576) (hM : Members w g ss bs) :
    Calls Try.prog 8 #[.agg #[x, y, .iface 47 (.slice (some ⟨g, 0, none⟩) n n)], .string nm, .int .i64 ix, .bool isIx] w fun e w' =>
      e = .returned (.agg #[.nilIface, .nilIface, ifv (partO nm isIx ss bs)]) ∧ Below w.heap.size w w' := by
  rcases ho : partO nm isIx ss bs with _ | b <;> unfold ifv <;> have HO := (show Hid _ from ho) <;> clear ho
  · go_enter Try.func8, Try.ntmps8
    go_wp2_with (go_at_call 16; refine (part_obj_none g n ss bs nm ix isIx _ hn hm hnb (hM.below (((Below.refl _ _).alloc (Nat.le_refl _) _).alloc (by simp) _)) HO.out).mono ?_; rintro e w' ⟨rfl, hb⟩; obtain ⟨hc, hf⟩ := bcell hb; have hz : w.heap.size + 1 < w'.heap.size := by have := hb.size; simp at this; omega)
    refine bodyPost_ret (v := .agg #[.nilIface, .nilIface, .nilIface]) (by simp [results, Try.results8, go_sem, hc, hz]) rfl ⟨rfl, ?_⟩
    have h0 : Below w.heap.size w w' := (((Below.refl _ _).alloc (Nat.le_refl _) _).alloc (by simp) _).trans (hb.mono (by simp; omega))
    with_reducible repeat (first | exact h0 | refine Below.setCell ?_ (by simp) _)
  · go_enter Try.func8, Try.ntmps8
    go_wp2_with (go_at_call 16; refine (part_obj_some g n ss bs nm ix isIx b _ hn hm hnb (hM.below (((Below.refl _ _).alloc (Nat.le_refl _) _).alloc (by simp) _)) HO.out).mono ?_; rintro e w' ⟨rfl, hb⟩; obtain ⟨hc, hf⟩ := bcell hb; have hz : w.heap.size + 1 < w'.heap.size := by have := hb.size; simp at this; omega)
    refine bodyPost_ret (v := .agg #[.nilIface, .nilIface, .iface 4 (.bool b)]) (by simp [results, Try.results8, go_sem, hc, hz]) rfl ⟨rfl, ?_⟩
    have h0 : Below w.heap.size w w' := (((Below.refl _ _).alloc (Nat.le_refl _) _).alloc (by simp) _).trans (hb.mono (by simp; omega))
    with_reducible repeat (first | exact h0 | refine Below.setCell ?_ (by simp) _)
end Go.Proofs.Qxb6615895a.Sen
