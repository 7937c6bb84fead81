import Derived.Test.Qxb6615895aSenD
import Derived.Deep.DeepCutAuto
namespace Go.Proofs.Qxb6615895a.Sen
open Go.RowKit
set_option linter.unusedSimpArgs false
set_option linter.unusedVariables false

theorem madeList_len (z : Array Value) (n : Nat) : (madeCells z n).toList.length = n := by simp [madeCells]
theorem splice_all {α : Type} (L cs : List α) (h : cs.length = L.length) : splice L 0 cs = cs := by
  simp [splice, h]
theorem cell_block {w : World} {g j : Nat} {cs : List Value} {t : TypeId} (h : w.heap[g]? = some (.cells cs.toArray t (0, 0))) : w.cell? ⟨g, j, none⟩ = cs[j]? := by
  simp [World.cell?, h]
theorem strs_block {w : World} {g : Nat} {cur : List Value} {ss : List ByteArray} (h : w.heap[g]? = some (.cells (splice cur 0 (ss.map Value.string)).toArray 9 (0, 0))) (hl : cur.length = ss.length) : StrsAt w (some ⟨g, 0, none⟩) ss := fun _ => by
  rw [splice_all _ _ (by simpa using hl.symm)] at h
  refine ⟨g, 0, rfl, fun i hi => ?_⟩
  rw [cell_block h]; simp [hi]
theorem bools_block {w : World} {g : Nat} {cur : List Value} {bs : List Bool} (h : w.heap[g]? = some (.cells (splice cur 0 (bs.map Value.bool)).toArray 4 (0, 0))) (hl : cur.length = bs.length) : BoolsAt w (some ⟨g, 0, none⟩) bs := fun _ => by
  rw [splice_all _ _ (by simpa using hl.symm)] at h
  refine ⟨g, 0, rfl, fun i hi => ?_⟩
  rw [cell_block h]; simp [hi]
/-- Where the cells to be copied lie, as the law on copy asks it. -/
theorem strs_src {w w1 : World} {x : Addr} {ss : List ByteArray} (h : StrsAt w (some x) ss) (hb : Below w.heap.size w w1) (j : Nat) (v : Value) (hj : (ss.map Value.string)[j]? = some v) : w1.cell? (x.add j) = some v := by
  obtain ⟨hl, he⟩ := List.getElem?_eq_some_iff.1 hj
  have hlt : j < ss.length := by simpa using hl
  obtain ⟨b, o, hx, hc⟩ := h.below hb (by omega)
  simp only [Option.some.injEq] at hx
  subst hx
  rw [← he]
  have h0 := hc j hlt
  simp only [Addr.add]
  split <;> simp_all
theorem bools_src {w w1 : World} {x : Addr} {bs : List Bool} (h : BoolsAt w (some x) bs) (hb : Below w.heap.size w w1) (j : Nat) (v : Value) (hj : (bs.map Value.bool)[j]? = some v) : w1.cell? (x.add j) = some v := by
  obtain ⟨hl, he⟩ := List.getElem?_eq_some_iff.1 hj
  have hlt : j < bs.length := by simpa using hl
  obtain ⟨b, o, hx, hc⟩ := h.below hb (by omega)
  simp only [Option.some.injEq] at hx
  subst hx
  rw [← he]
  have h0 := hc j hlt
  simp only [Addr.add]
  split <;> simp_all
theorem isSome_of {o : Option Bool} {b : Bool} (h : o = some b) : Value.bool true = .bool o.isSome ∧ Value.bool b = .bool (isT o) := by subst h; cases b <;> exact ⟨rfl, rfl⟩
theorem isSome_no {o : Option Bool} (h : o = none) : Value.bool false = .bool o.isSome ∧ Value.bool false = .bool (isT o) := by subst h; exact ⟨rfl, rfl⟩
theorem isT_down (o : Option Bool) : isT (down o) = isT o := by rcases o with _ | _ | _ <;> rfl
theorem isNone_down (o : Option Bool) : (down o).isNone = !isT o := by rcases o with _ | _ | _ <;> rfl
theorem run_store_ifv (P : Program) (w : World) (a : Addr) (o : Option Bool) (m : Mode) : (store a (ifv o) m).run P w = stored P w a (ifv o) m := run_store P w a _ m (by cases o <;> rfl)
attribute [local go_sem] run_store_ifv
/-- A struct of three cells at the head of block g. -/
def Has3 (w : World) (g : Nat) (x y z : Value) : Prop := w.cell? ⟨g, 0, none⟩ = some x ∧ w.cell? ⟨g, 1, none⟩ = some y ∧ w.cell? ⟨g, 2, none⟩ = some z
theorem has3_new (w : World) (x y z : Value) (t : TypeId) : Has3 (w.alloc (.cells #[x, y, z] t)) w.heap.size x y z := ⟨World.cell?_alloc_new _ _ _ _, World.cell?_alloc_new _ _ _ _, World.cell?_alloc_new _ _ _ _⟩
theorem Has3.below {w w' : World} {g : Nat} {x y z : Value} (h : Has3 w g x y z) (hb : Below w.heap.size w w') : Has3 w' g x y z := by
  have hg : g < w.heap.size := World.block_lt_of_cell? _ _ h.1
  exact ⟨(hb.cell (by exact hg)).trans h.1, (hb.cell (by exact hg)).trans h.2.1, (hb.cell (by exact hg)).trans h.2.2⟩
theorem Has3.alloc {w : World} {g : Nat} {x y z : Value} (h : Has3 w g x y z) (o : Obj) : Has3 (w.alloc o) g x y z := h.below ((Below.refl _ _).alloc (Nat.le_refl _) _)
theorem size9 : (Try.prog.info? 9).map (·.size) = some 1 := by kernel_rfl
theorem size4 : (Try.prog.info? 4).map (·.size) = some 1 := by kernel_rfl

set_option maxRecDepth 100000 in
set_option maxHeartbeats 4000000 in
theorem sen_any (a0 a1 : Option Addr) (n m c0 c1 : Nat) (ss : List ByteArray) (bs : List Bool) (nm nm2 : ByteArray) (ix ix2 : Int) (isIx isIx2 : Bool) (w : World) (hn : ss.length = n) (hm : bs.length = m) (hS : StrsAt w a0 ss) (hB : BoolsAt w a1 bs)
    (hn0 : n ≤ maxLen) (hm0 : m ≤ maxLen) (h1 : nm.size ≤ maxLen) (h2 : nm2.size ≤ maxLen) :
    Calls Try.prog 3 #[.slice a0 n c0, .slice a1 m c1, .string nm, .int .i64 ix, .bool isIx, .string nm2, .int .i64 ix2, .bool isIx2] w fun e w' => e = .returned (.bool true) ∧ Below w.heap.size w w' := by
  go_enter Try.func3, Try.ntmps3
  go_upto_if 56 with (go_at_call 6; refine (bytes_any a0 a1 n m c0 c1 ss nm nm2 ix ix2 isIx isIx2 _ hn hS hn0 hm0 h1 h2).mono ?_; rintro e w' ⟨⟨b, rfl⟩, rfl⟩)
  · go_ret
    exact ⟨rfl, Below.refl _ _⟩
  · go_ret
    exact ⟨rfl, Below.refl _ _⟩
  · have hN : n ≤ 1048576 := by omega
    have hMm : m ≤ 1048576 := by omega
    have hK : nm.size ≤ 1048576 := by omega
    have hK2 : nm2.size ≤ 1048576 := by omega
    go_cut [0] (fun v0 wx => ∃ a c, v0 = .slice a n c ∧ StrsAt wx a ss ∧ Below w.heap.size w wx)
    case first =>
      rcases a0 with _ | x
      · go_wp2
        go_meet
        case rel => exact ⟨none, c0, rfl, hS, Below.refl _ _⟩
      · obtain ⟨i9, hi, hz0, hz1, hz2⟩ := info_parts info9
        have hmk := fun W => run_make (P := Try.prog) W 22 9 i9 _ Try.underlying22 hi hz0 .i64 .i64 (n : Int) (n : Int) (by omega) (Int.le_refl _) (by rw [hz2]; omega) (by omega)
        simp only [hz1, Int.toNat_natCast, Nat.mul_one] at hmk
        go_wp2_with (refine wpList_copy_splice rfl (.tmp 60) (.tmp 61) 22 22 rfl 9 Try.underlying22 size9 (some ⟨w.heap.size, 0, none⟩) (some x) n n n c0 rfl rfl w.heap.size 0 (madeCells #[.string ByteArray.empty] n).toList 9 (by simpa using heap_alloc_new w _) (ss.map .string) (by simp [hn]) (fun _ => ⟨rfl, x, rfl, strs_src hS ((Below.refl _ _).alloc (Nat.le_refl _) _)⟩) (by rw [madeList_len]; simp [hn]) (by intro v hv; obtain ⟨y, _, rfl⟩ := List.mem_map.1 hv; rfl) w.heap.size w ((Below.refl _ _).alloc (Nat.le_refl _) _) (Nat.le_refl _) ?_; intro w2 HG hB2)
        go_meet
        case rel => exact ⟨some ⟨w.heap.size, 0, none⟩, n, rfl, strs_block HG.out (by rw [madeList_len, hn]), hB2⟩
    case rest =>
      obtain ⟨w1, hw1⟩ : ∃ x, x = wc := ⟨_, rfl⟩
      subst hw1
      obtain ⟨a0', c0', rfl, hS', hbel⟩ := hcut
      clear hS
      have hB' := hB.below hbel
      clear hB
      go_upto_if 65 with fail
      go_cut [1] (fun v1 wx => ∃ a c, v1 = .slice a m c ∧ BoolsAt wx a bs ∧ Below w1.heap.size w1 wx)
      case first =>
        rcases a1 with _ | x
        · go_wp2
          go_meet
          case rel => exact ⟨none, c1, rfl, hB', Below.refl _ _⟩
        · obtain ⟨i4, hi, hz0, hz1, hz2⟩ := info_parts info4
          have hmk := fun W => run_make (P := Try.prog) W 23 4 i4 _ Try.underlying23 hi hz0 .i64 .i64 (m : Int) (m : Int) (by omega) (Int.le_refl _) (by rw [hz2]; omega) (by omega)
          simp only [hz1, Int.toNat_natCast, Nat.mul_one] at hmk
          go_wp2_with (refine wpList_copy_splice rfl (.tmp 69) (.tmp 70) 23 23 rfl 4 Try.underlying23 size4 (some ⟨w1.heap.size, 0, none⟩) (some x) m m m c1 rfl rfl w1.heap.size 0 (madeCells #[.bool false] m).toList 4 (by simpa using heap_alloc_new w1 _) (bs.map .bool) (by simp [hm]) (fun _ => ⟨rfl, x, rfl, bools_src hB' ((Below.refl _ _).alloc (Nat.le_refl _) _)⟩) (by rw [madeList_len]; simp [hm]) (by intro v hv; obtain ⟨y, _, rfl⟩ := List.mem_map.1 hv; rfl) w1.heap.size w1 ((Below.refl _ _).alloc (Nat.le_refl _) _) (Nat.le_refl _) ?_; intro w2 HG hB2)
          go_meet
          case rel => exact ⟨some ⟨w1.heap.size, 0, none⟩, m, rfl, bools_block HG.out (by rw [madeList_len, hm]), hB2⟩
      case rest =>
        obtain ⟨w2, hw2⟩ : ∃ x, x = wc := ⟨_, rfl⟩
        subst hw2
        obtain ⟨a1', c1', rfl, hB2, hbel2⟩ := hcut
        have hS2 := hS'.below hbel2
        have hbw : Below w.heap.size w w2 := hbel.trans (hbel2.mono hbel.size)
        clear hS' hB' hbel hbel2
        go_wp2
        · go_ret
          exact ⟨rfl, hbw⟩
        go_loop [19, 20] (fun z i => ∃ (k : Nat) (y : Int), k ≤ n ∧ i = .int .i64 k ∧ 0 ≤ y ∧ y ≤ 1048576 ∧ z = .int .i64 y) (fun _ i => n - (intOf i).toNat)
        case atStart => exact ⟨0, _, Nat.zero_le _, rfl, by omega, by omega, rfl⟩
        case round =>
          obtain ⟨k, y, hk, rfl, hy0, hy1, rfl⟩ := hrel
          by_cases hlt : k < n
          · obtain ⟨b', o, rfl, hcs⟩ := hS2 (by omega)
            have hs := hcs k (by omega)
            clear hcs hS2 hB2
            go_wp2
            all_goals first
              | (go_round
                 case rel => exact ⟨k + 1, _, by omega, by go_num, by omega, by omega, rfl⟩
                 case measure => simp [intOf]; omega)
              | (go_ret
                 exact ⟨rfl, hbw⟩)
          · by_cases hmn : m = n
            · subst hmn
              go_upto_if 111 with fail
              obtain ⟨o, ho⟩ : ∃ o, o = partO nm isIx ss bs := ⟨_, rfl⟩
              have HO : Hid (o = partO nm isIx ss bs) := ho
              clear ho
              go_cut [21, 22] (fun f g wx => (f = .bool o.isSome ∧ g = .bool (isT o)) ∧ w2 = wx)
              case first =>
                rcases isIx with _ | _
                · go_wp2
                  go_loop [21, 22, 23] (fun f g i => ∃ k : Nat, k ≤ m ∧ i = .int .i64 k ∧ f = .bool false ∧ g = .bool false ∧ find nm ss bs = find nm (ss.drop k) (bs.drop k)) (fun _ _ i => m - (intOf i).toNat)
                  case atStart => exact ⟨0, Nat.zero_le _, rfl, rfl, rfl, by simp⟩
                  case round =>
                    obtain ⟨k', hk', rfl, rfl, rfl, hfd⟩ := hrel
                    have HF : Hid (find nm ss bs = find nm (ss.drop k') (bs.drop k')) := hfd
                    clear hfd
                    by_cases hlt' : k' < m
                    · obtain ⟨b', o', rfl, hcs⟩ := hS2 (by omega)
                      obtain ⟨b'', o'', rfl, hcb⟩ := hB2 (by omega)
                      have hs := hcs k' (by omega)
                      have hb := hcb k' (by omega)
                      clear hcs hcb hS2 hB2
                      go_wp2
                      · have ht : (ss[k'].toList == nm.toList) = true := by assumption
                        go_meet
                        case rel => exact ⟨isSome_of (by rw [HO.out]; unfold partO; rw [if_neg (by simp), HF.out, find_drop nm ss bs k' (by omega) (by omega), if_pos ht]), rfl⟩
                      · have ht : (ss[k'].toList == nm.toList) = false := by assumption
                        go_round
                        case rel => exact ⟨k' + 1, by omega, by go_num, rfl, rfl, by rw [HF.out, find_drop nm ss bs k' (by omega) (by omega), if_neg (by rw [ht]; simp)]⟩
                        case measure => simp [intOf]; omega
                    · clear hS2 hB2
                      go_wp2
                      go_meet
                      case rel => exact ⟨isSome_no (by rw [HO.out]; unfold partO; rw [if_neg (by simp), HF.out, find_end nm ss bs k' (by omega)]), rfl⟩
                · clear hS2 hB2
                  go_wp2
                  go_meet
                  case rel => exact ⟨isSome_no (by rw [HO.out]; rfl), rfl⟩
              case rest =>
                obtain ⟨⟨rfl, rfl⟩, rfl⟩ := hcut
                go_wp2_with (first | (go_at_call 7; refine (marked_any a0' a1' m c0' c1' ss bs _ hn hm hMm hS2 hB2).mono ?_; rintro e w3 ⟨g, rfl, hMem, hb3⟩))
                refine (partM_obj _ _ g m ss bs nm ix isIx _ hn hm hMm (hMem.below ((Below.refl _ _).alloc (Nat.le_refl _) _))).mono ?_
                rw [← HO.out]
                rintro e w4 ⟨rfl, hb4⟩
                have z34 : w3.heap.size < w4.heap.size := by have := hb4.size; simp at this; omega
                have H3 := has3_new w3 .nilIface .nilIface (.iface 47 (.slice (some ⟨g, 0, none⟩) m m)) 27
                have HT34 : Hid (Has3 w4 w3.heap.size _ _ _) := H3.below hb4
                have q34a := HT34.out.1; have q34b := HT34.out.2.1; have q34c := HT34.out.2.2
                clear H3
                have Hb4 : Hid (Below w.heap.size w w4) := (hbw.trans ((hb3.mono hbw.size).alloc (Nat.le_trans hbw.size hb3.size) _)).trans (hb4.mono (by have := hbw.size; have := hb3.size; simp; omega))
                clear hb4 hb3 hbw
                go_wp2_with fail
                refine (partM_ifv _ _ nm2 ix2 isIx2 o _).mono ?_
                rintro e w5 ⟨rfl, hb5⟩
                have z45 : w4.heap.size < w5.heap.size := by have := hb5.size; simp at this; omega
                have z35 : w3.heap.size < w5.heap.size := by omega
                have HT35 : Hid (Has3 w5 w3.heap.size _ _ _) := (HT34.out.alloc _).below hb5
                have H4 := has3_new w4 .nilIface .nilIface (ifv o) 27
                have HT45 : Hid (Has3 w5 w4.heap.size _ _ _) := H4.below hb5
                clear H4
                have q35a := HT35.out.1; have q35b := HT35.out.2.1; have q35c := HT35.out.2.2
                have q45a := HT45.out.1; have q45b := HT45.out.2.1; have q45c := HT45.out.2.2
                have Hb5 : Hid (Below w.heap.size w w5) := (Hb4.out.alloc Hb4.out.size _).trans (hb5.mono (by have := Hb4.out.size; simp; omega))
                clear hb5
                go_wp2_with fail
                refine (isSens_obj _ _ _ _).mono ?_
                rintro e w6 ⟨rfl, hb6⟩
                have HT36 : Hid (Has3 w6 w3.heap.size _ _ _) := (HT35.out.alloc _).below hb6
                have HT46 : Hid (Has3 w6 w4.heap.size _ _ _) := (HT45.out.alloc _).below hb6
                have H5 := has3_new w5 .nilIface .nilIface (ifv (down o)) 27
                have HT56 : Hid (Has3 w6 w5.heap.size _ _ _) := H5.below hb6
                clear H5
                have Hb6 : Hid (Below w.heap.size w w6) := (Hb5.out.alloc Hb5.out.size _).trans (hb6.mono (by have := Hb5.out.size; simp; omega))
                have q46a := HT46.out.1; have q46b := HT46.out.2.1; have q46c := HT46.out.2.2
                have q56a := HT56.out.1; have q56b := HT56.out.2.1; have q56c := HT56.out.2.2
                clear hb6
                clear q34a q34b q34c q35a q35b q35c q45a q45b q45c
                go_wp2_with fail
                refine (isSens_ifv _ _ o _).mono ?_
                rintro e w7 ⟨rfl, hb7⟩
                have HT47 : Hid (Has3 w7 w4.heap.size _ _ _) := HT46.out.below hb7
                have HT57 : Hid (Has3 w7 w5.heap.size _ _ _) := HT56.out.below hb7
                have Hb7 : Hid (Below w.heap.size w w7) := Hb6.out.trans (hb7.mono Hb6.out.size)
                have q47a := HT47.out.1; have q47b := HT47.out.2.1; have q47c := HT47.out.2.2
                have q57a := HT57.out.1; have q57b := HT57.out.2.1; have q57c := HT57.out.2.2
                clear hb7
                go_wp2_with fail
                refine (isNil_ifv _ _ o _).mono ?_
                have hdn1 := isT_down o
                have hdn2 := isNone_down o
                rintro e w8 ⟨rfl, hb8⟩
                have HT48 : Hid (Has3 w8 w4.heap.size _ _ _) := HT47.out.below hb8
                have HT58 : Hid (Has3 w8 w5.heap.size _ _ _) := HT57.out.below hb8
                have Hb8 : Hid (Below w.heap.size w w8) := Hb7.out.trans (hb8.mono Hb7.out.size)
                have q48a := HT48.out.1; have q48b := HT48.out.2.1; have q48c := HT48.out.2.2
                have q58a := HT58.out.1; have q58b := HT58.out.2.1; have q58c := HT58.out.2.2
                clear hb8
                go_wp2_with fail
                refine (isSens_ifv _ _ (down o) _).mono ?_
                rintro e w9 ⟨rfl, hb9⟩
                have HT49 : Hid (Has3 w9 w4.heap.size _ _ _) := HT48.out.below hb9
                have HT59 : Hid (Has3 w9 w5.heap.size _ _ _) := HT58.out.below hb9
                have Hb9 : Hid (Below w.heap.size w w9) := Hb8.out.trans (hb9.mono Hb8.out.size)
                have q49a := HT49.out.1; have q49b := HT49.out.2.1; have q49c := HT49.out.2.2
                have q59a := HT59.out.1; have q59b := HT59.out.2.1; have q59c := HT59.out.2.2
                clear hb9
                go_wp2_with fail
                refine (isNil_ifv _ _ (down o) _).mono ?_
                rintro e w10 ⟨rfl, hb10⟩
                have HT410 : Hid (Has3 w10 w4.heap.size _ _ _) := HT49.out.below hb10
                have HT510 : Hid (Has3 w10 w5.heap.size _ _ _) := HT59.out.below hb10
                have Hb10 : Hid (Below w.heap.size w w10) := Hb9.out.trans (hb10.mono Hb9.out.size)
                have q410a := HT410.out.1; have q410b := HT410.out.2.1; have q410c := HT410.out.2.2
                have q510a := HT510.out.1; have q510b := HT510.out.2.1; have q510c := HT510.out.2.2
                clear hb10
                go_wp2
                go_ret
                exact ⟨rfl, Hb10.out⟩
            · have hne : ((m : Int) != (n : Int)) = true := by simp; omega
              go_wp2
              go_ret
              exact ⟨rfl, hbw⟩
  · go_ret
    exact ⟨rfl, Below.refl _ _⟩
  · go_ret
    exact ⟨rfl, Below.refl _ _⟩
  · go_ret
    exact ⟨rfl, Below.refl _ _⟩
end Go.Proofs.Qxb6615895a.Sen
