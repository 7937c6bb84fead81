import Derived.Test.Qxb6608958aDoorVp
import Derived.BigQuiet
namespace Go.Proofs.Qxb6608958aDoor.Fl
open Go.RowKit
set_option linter.unusedSimpArgs false
set_option linter.unusedVariables false
attribute [local go_sem ↓] Go.wp_at_zero Go.wp_at_succ
theorem bel_drewN {B : Nat} {w w' : World} (h : Below B w w') (n : Nat) : Below B w (w'.drewN n) := ⟨h.os, h.tape, h.output, h.size, h.block⟩
theorem law_large (s : ByteArray) (hs : ¬ s.size ≤ 1048576) (w : World) : Calls Tryd.prog 3 #[.string s] w fun ev w' => ev = .returned (.bool true) ∧ Below w.heap.size w w' := by
  go_enter Tryd.func3, Tryd.ntmps3
  go_wp2_with (go_at_call 4; refine (bytes_large s hs _).mono ?_; rintro e w' ⟨rfl, rfl⟩)
  go_ret
  exact ⟨rfl, Below.refl _ _⟩
set_option maxHeartbeats 4000000 in
theorem law_small (s : ByteArray) (hs : s.size ≤ 1048576) (w : World) (hg : Er w) : Calls Tryd.prog 3 #[.string s] w fun ev w' => ev = .returned (.bool true) ∧ Below w.heap.size w w' := by
  have HG : Hid (Er w) := hg
  have h1 : ¬ (1048576 : Int) < (s.size : Int) := by omega
  have HS : Hid (s.size ≤ 1048576) := hs
  have ha := add_val s hs
  clear hg hs
  go_enter Tryd.func3, Tryd.ntmps3
  go_wp2_with (go_at_call 4; refine (bytes_small s HS.out _).mono ?_; rintro e w' ⟨rfl, rfl⟩)
  refine (ztext s HS.out w HG.out).mono ?_
  rintro e w1 ⟨a, rfl, hc, hb⟩
  have HA : Hid (∀ o1, Below w.heap.size w (w1.alloc o1)) := fun o1 => hb.alloc hb.size _
  have HC : Hid (∀ t, (w1.alloc (.cells #[.string s] t)).cell? ⟨w1.heap.size, 0, none⟩ = some (.string s)) := fun t => by simp
  have HV : Hid (∀ o, (w1.alloc o).cell? ⟨a, 0, none⟩ = some (.string (val s))) := fun o => (((Below.refl w1.heap.size w1).alloc (Nat.le_refl _) o).cell (World.block_lt_of_cell? _ _ hc)).trans hc
  have HL : Hid (∀ o, w.heap.size ≤ (w1.alloc o).heap.size) := fun o => by have := hb.size; simp; omega
  clear hb hc
  go_wp2_with (go_at_call 6; refine (zfaults _ s HS.out _ (HG.out.below (HA.out _) HG.out.pos) (HC.out _)).mono ?_; rintro e w2 ⟨a2, rfl, hc2, hb2⟩)
  have hc1 := (hb2.cell (World.block_lt_of_cell? _ _ (HV.out _))).trans (HV.out _)
  have H0 : Hid (Below w.heap.size w w2) := (HA.out _).trans (hb2.mono (HL.out _))
  clear hb2
  go_quiet (fail)
  go_wp2
  go_ret
  exact ⟨rfl, bel_drewN H0.out _⟩
end Go.Proofs.Qxb6608958aDoor.Fl
