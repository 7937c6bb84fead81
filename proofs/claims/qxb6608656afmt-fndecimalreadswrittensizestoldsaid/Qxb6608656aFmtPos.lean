import Derived.Test.Qxb6608656aFmtParts
namespace Go.Proofs.Qxb6608656aFmt.Dec
open Go.RowKit
set_option linter.unusedSimpArgs false
set_option linter.unusedVariables false
theorem law_out (t n : Int) (h : t < 1 ∨ 4 < t) (w : World) : Calls Tryf.prog 3 #[.int .i8 t, .int .i64 n] w fun e w' => e = .returned (.bool true) ∧ Below w.heap.size w w' := by
  rcases h with h | h
  · go_enter Tryf.func3, Tryf.ntmps3
    go_wp2
    go_ret
    exact ⟨rfl, Below.refl _ _⟩
  · have h' : ¬ t < 1 := by omega
    go_enter Tryf.func3, Tryf.ntmps3
    go_wp2
    go_ret
    exact ⟨rfl, Below.refl _ _⟩

set_option maxHeartbeats 6400000 in
theorem law_pos (t n : Int) (h1 : 1 ≤ t) (h2 : t ≤ 4) (n0 : 0 ≤ n) (n1 : n ≤ 9223372036854775807) (nm : ByteArray) (hnm : nm.size ≤ 100) (hsp : ∀ c ∈ nm.data.toList, c.toNat ≠ 32) (w : World) (hE : Env w t nm) :
    Calls Tryf.prog 3 #[.int .i8 t, .int .i64 n] w fun e w' => e = .returned (.bool true) ∧ Below w.heap.size w w' := by
  obtain ⟨l, hl⟩ : ∃ l, Lib.itoa n = l := ⟨_, rfl⟩
  have hl' : l = Lib.decDigits n.toNat := by rw [← hl]; unfold Lib.itoa; rw [if_neg (by omega)]
  obtain ⟨f1, f2, f3⟩ := decDigits_facts n.toNat
  have HD : Hid (Dec (ByteArray.mk l.toArray).data.toList) := by
    show Dec l
    rw [hl']; exact (dec_digits _).2 (by omega)
  have HG : Hid (Digs (ByteArray.mk l.toArray).data.toList) := by
    show Digs l
    rw [hl']; exact f1
  have HV : Hid ((val 0 (ByteArray.mk l.toArray).data.toList : Int) = n) := by
    show ((val 0 l : Nat) : Int) = n
    rw [hl', f2]; omega
  have hL1 : 1 ≤ l.length := by
    have := decDigits_ne n.toNat
    rw [← hl'] at this
    rcases l with _ | _
    · exact absurd rfl this
    · simp
  have hL2 : l.length ≤ 20 := by rw [hl']; exact nDigits_le _ (by omega)
  obtain ⟨s, hs⟩ : ∃ s, ByteArray.mk l.toArray = s := ⟨_, rfl⟩
  have hsz : s.size = l.length := by rw [← hs]; rfl
  rw [hs] at HD HG HV
  have HH := zhdr_parts t n h1 h2 (by omega) n1 nm hnm hsp w hE l hl
  rw [hs] at HH
  have HE : Hid (Env w t nm) := hE
  clear hl hl' f1 f2 f3 hE hsp hs
  obtain ⟨L, hL⟩ : ∃ L, l.length = L := ⟨_, rfl⟩
  rw [hL] at HH hL1 hL2 hsz
  obtain ⟨m, hm⟩ : ∃ m, nm.size = m := ⟨_, rfl⟩
  rw [hm] at HH hnm
  clear hL hm
  have t1 : ¬ t < 1 := by omega
  have t2 : ¬ 4 < t := by omega
  go_enter Tryf.func3, Tryf.ntmps3
  go_wp2_with (go_at_call 8; refine HH.mono ?_; rintro e w1 ⟨g, cap, rfl, hcap, F1, F2, F3, F4, hb⟩)
  go_loop [7] (fun i => ∃ k : Nat, k ≤ m ∧ i = .int .i64 k) (fun i => m + 1 - (intOf i).toNat)
  case atStart => exact ⟨0, Nat.zero_le _, rfl⟩
  case round =>
    obtain ⟨k, hk, rfl⟩ := hrel
    by_cases hlt : k < m
    · obtain ⟨c, hc, hc32⟩ := F1 k hlt
      clear F1 F2 F3 F4
      go_wp2
      go_round
      case rel => exact ⟨k + 1, by omega, by go_num⟩
      case measure => simp [intOf]; omega
    · obtain rfl : k = m := by omega
      clear F1
      go_wp2_with fail
      clear F2 F3 F4
      have hs2 : s.size ≤ 1048576 := by omega
      refine (zdec_yes s hs2 HD.out t nm w w1 HE.out hb).mono ?_
      rintro e w2 ⟨rfl, hb2⟩
      have hbt := hb.trans (hb2.mono hb.size)
      clear hb hb2
      go_wp2_with (go_at_call 10; refine (pd_any s (by omega) (by omega) HG.out (by have := HV.out; omega) _).mono ?_; rintro e w3 ⟨rfl, rfl⟩; rw [HV.out])
      go_ret
      exact ⟨rfl, hbt⟩
end Go.Proofs.Qxb6608656aFmt.Dec
