import Derived.Test.Qxb6608656aFmtRows
import Derived.Test.Qxb6608656aFmtPlain
import Derived.Test.Qxb6608656aFmtShelf
import Derived.WalkKit
import Derived.WalkSpells
import Derived.WalkLawsBesides
import Derived.RowKit3
import Derived.Lib.AppendIntMem
import Derived.Lib.AppendStr
import Derived.Lib.ItoaLen
import Derived.Lib.Slices
import Derived.Lib.Hide
import Derived.BigCall
namespace Go.Proofs.Qxb6608656aFmt.Dec
open Go.RowKit Go.Shelf
set_option linter.unusedSimpArgs false
set_option linter.unusedVariables false

theorem valid_any (t : Int) (h1 : 1 ≤ t) (h2 : t ≤ 4) (w : World) : Calls Tryf.prog 43 #[.int .i8 t] w fun e w' => e = .returned (.bool true) ∧ w = w' := by
  go_enter Tryf.func43, Tryf.ntmps43
  go_wp2
  go_ret
  exact ⟨rfl, rfl⟩
theorem str_any (t : Int) (h1 : 1 ≤ t) (h2 : t ≤ 4) (nm : ByteArray) (w : World) (hT : w.cell? ⟨0, t.toNat, none⟩ = some (.string nm)) : Calls Tryf.prog 33 #[.int .i8 t] w fun e w' => e = .returned (.string nm) ∧ w = w' := by
  go_enter Tryf.func33, Tryf.ntmps33
  go_wp2_with (go_at_call 43; refine (valid_any t h1 h2 _).mono ?_; rintro e w' ⟨rfl, rfl⟩)
  go_ret
  exact ⟨rfl, rfl⟩

/-- The table's name, as the row lists it. -/
def nm10 : String := match Rows.fnDecimalReadsWrittenSizesRow.laid with
  | _ :: _ :: p :: _ => p.1
  | _ => ""
theorem appendInt_any (B n : Nat) (i : Int) (h0 : -9223372036854775808 ≤ i) (h1 : i ≤ 9223372036854775807) (sv : Value) (xs : List Value) (w : World) (hown : w.ownsRow B 5 1 sv n xs) (hBw : B ≤ w.heap.size) (hlim : n + 21 ≤ 140737488355328)
    (htab : Lib.TabBelow Tryf.prog B w nm10 .u64 Lib.pow10Tab) :
    Calls Tryf.prog 34 #[sv, .int .i64 i, .int .i64 10] w fun e w' => ∃ v', e = .returned v' ∧ w'.ownsRow B 5 1 v' (n + (Lib.itoa i).length) (xs ++ Lib.byteCells (Lib.itoa i)) ∧ Below B w w' := by
  refine (Any.strconv_AppendInt_10 Tryf.laysM176 B n i h0 h1 sv xs w hown hBw hlim htab).mono ?_
  rintro e w' ⟨v, rfl, ho, hb, -⟩
  exact ⟨v, rfl, ho, hb⟩
theorem infoByte : (Tryf.prog.info? 5).map (fun i => (i.zero, i.size, i.bytes)) = some (some (.int .u8 0), 1, 1) := by kernel_rfl
/-- The header's bytes. -/
def hd (nm : ByteArray) (n : Int) : List UInt8 := nm.data.toList ++ 32 :: (Lib.itoa n ++ [0])

set_option maxHeartbeats 6400000 in
set_option maxRecDepth 100000 in
theorem hdr_any (t n : Int) (h1 : 1 ≤ t) (h2 : t ≤ 4) (n0 : -9223372036854775808 ≤ n) (n1 : n ≤ 9223372036854775807) (nm : ByteArray) (hnm : nm.size ≤ 100) (w : World) (hT : w.cell? ⟨0, t.toNat, none⟩ = some (.string nm))
    (htab : Lib.TabIs Tryf.prog w nm10 .u64 Lib.pow10Tab) :
    Calls Tryf.prog 25 #[.slice none 0 0, .int .i8 t, .int .i64 n] w fun e w' => ∃ v, e = .returned v ∧ w'.ownsRow w.heap.size 5 1 v (hd nm n).length (Lib.byteCells (hd nm n)) ∧ Below w.heap.size w w' := by
  obtain ⟨i0, hi, hz0, hz1, hz2⟩ := info_parts infoByte
  have hTab := Lib.tabBelow_of_tabIs htab
  have la := Lib.itoa_length_le n n0 n1
  go_enter Tryf.func25, Tryf.ntmps25
  go_wp2_with (first | (go_at_call 33; refine (str_any t h1 h2 nm _ hT).mono ?_; rintro e w' ⟨rfl, rfl⟩) | (at_builtin; refine Lib.wpList_append_own_string _ rfl _ _ 23 9 rfl w.heap.size 5 i0 Tryf.underlying23 Tryf.underlying9 hi hz0 hz1 hz2 _ _ _ rfl (World.ownsRow_nil _ _ _ _) nm rfl (by unfold maxLen; omega) (by omega) (Nat.le_refl _) ?_))
  intro v1 w1 hown1 hgrow1 _
  have hnx1 : Below w.heap.size w w1 := (Below.refl _ _).grown hgrow1 (Nat.le_refl _) (fun k hk => by cases hk)
  go_wp2_with (at_builtin; refine wpList_append_own _ rfl _ _ 23 rfl w.heap.size 5 i0 (.int .u8 0) 1 1 Tryf.underlying23 hi hz0 hz1 hz2 rfl (by decide) _ _ _ rfl (hown1.alloc _) ⟨w1.heap.size, 0, none⟩ 1 1 [Value.int .u8 32] rfl rfl (by intro j u' hj; match j, hj with | 0, hj => simp at hj; subst hj; simp [Addr.add]) (by intro u' hu'; simp at hu'; subst hu'; rfl) (by unfold maxLen; omega) (by omega) (by have := hnx1.size; simp; omega) ?_)
  intro v2 w2 hown2 hgrow2 _
  have hnx2 : Below w.heap.size w w2 := (hnx1.alloc (by have := hnx1.size; omega) _).grown hgrow2 (by have := hnx1.size; simp; omega) (fun k hk => (hown1.lt k hk).1)
  go_wp2_with (go_at_call 34; refine (appendInt_any w.heap.size _ n n0 n1 v2 _ w2 hown2 (by have := hnx2.size; omega) (by omega) (hTab.on hnx2)).mono ?_; rintro e w3 ⟨v3, rfl, hown3, hnx3⟩; refine Hid.out ?_)
  refine Lib.hid ?_
  have hnx3' := hnx2.trans hnx3
  go_wp2_with (at_builtin; refine wpList_append_own _ rfl _ _ 23 rfl w.heap.size 5 i0 (.int .u8 0) 1 1 Tryf.underlying23 hi hz0 hz1 hz2 rfl (by decide) _ _ _ rfl (hown3.alloc _) ⟨w3.heap.size, 0, none⟩ 1 1 [Value.int .u8 0] rfl rfl (by intro j u' hj; match j, hj with | 0, hj => simp at hj; subst hj; simp [Addr.add]) (by intro u' hu'; simp at hu'; subst hu'; rfl) (by unfold maxLen; omega) (by omega) (by have := hnx3'.size; simp; omega) ?_)
  intro v4 w4 hown4 hgrow4 _
  have hnx4 : Below w.heap.size w w4 := (hnx3'.alloc (by have := hnx3'.size; omega) _).grown hgrow4 (by have := hnx3'.size; simp; omega) (fun k hk => (hown3.lt k hk).1)
  have eL : Lib.strCells nm ++ Value.int .u8 32 :: (Lib.byteCells (Lib.itoa n) ++ [Value.int .u8 0]) = Lib.byteCells (hd nm n) := by simp [Lib.strCells_eq, Lib.byteCells, hd]
  have eN : nm.size + 1 + (Lib.itoa n).length + 1 = (hd nm n).length := by
    have hs : nm.data.size = nm.size := rfl
    simp [hd, hs]; omega
  rw [eL, eN] at hown4
  go_wp2
  go_ret
  exact ⟨v4, rfl, hown4, hnx4⟩
set_option maxHeartbeats 1000000 in
theorem zhdr_any (t n : Int) (h1 : 1 ≤ t) (h2 : t ≤ 4) (n0 : -9223372036854775808 ≤ n) (n1 : n ≤ 9223372036854775807) (nm : ByteArray) (hnm : nm.size ≤ 100) (w : World) (hT : w.cell? ⟨0, t.toNat, none⟩ = some (.string nm))
    (htab : Lib.TabIs Tryf.prog w nm10 .u64 Lib.pow10Tab) :
    Calls Tryf.prog 8 #[.slice none 0 0, .int .i8 t, .int .i64 n] w fun e w' => ∃ g cap, e = .returned (.slice (some ⟨g, 0, none⟩) (hd nm n).length cap) ∧ (hd nm n).length ≤ cap ∧ (∀ (j : Nat) (hj : j < (hd nm n).length), w'.cell? ⟨g, j, none⟩ = some (.int .u8 ((hd nm n)[j].toNat : Int))) ∧ w.heap.size ≤ g ∧ g < w'.heap.size ∧ Below w.heap.size w w' := by
  go_enter Tryf.func8, Tryf.ntmps8
  go_wp2_with (go_at_call 25; refine (hdr_any t n h1 h2 n0 n1 nm hnm _ hT htab).mono ?_; rintro e w' ⟨v, rfl, ho, hb⟩)
  go_ret
  rcases ho.2 with ⟨-, h0⟩ | ⟨g, cap, cur, rfl, hb1, hb2, hb3, hb4, -, -⟩
  · simp [hd] at h0
  · have hlt := (ho.lt g rfl)
    exact ⟨g, cap, rfl, hb3, fun j hj => by simpa [Addr.add_lit] using ho.cells (g := g) rfl j (.int .u8 ((hd nm n)[j].toNat : Int)) (by simp [Lib.byteCells, hj]), hlt.1, hlt.2, hb⟩
end Go.Proofs.Qxb6608656aFmt.Dec
