import Derived.Test.Qxb6608656aFmtParts
namespace Go.Proofs.Qxb6608656aFmt.Dec
open Go.RowKit
set_option linter.unusedSimpArgs false
set_option linter.unusedVariables false
theorem mk_extract (c : UInt8) (r : List UInt8) : (ByteArray.mk (c :: r).toArray).extract 1 (r.length + 1) = ByteArray.mk r.toArray := by
  apply ByteArray.ext
  apply Array.ext'
  simp [ByteArray.data_extract]
set_option maxHeartbeats 6400000 in
theorem law_neg (t n : Int) (h1 : 1 ≤ t) (h2 : t ≤ 4) (n0 : n < 0) (n1 : -9223372036854775808 ≤ n) (q : Bool) (hq : (n != -9223372036854775808) = q) (nm : ByteArray) (hnm : nm.size ≤ 100) (hsp : ∀ c ∈ nm.data.toList, c.toNat ≠ 32) (w : World) (hE : Env w t nm) :
    Calls Tryf.prog 3 #[.int .i8 t, .int .i64 n] w fun e w' => e = .returned (.bool true) ∧ Below w.heap.size w w' := by
  obtain ⟨u, hu⟩ : ∃ u, n.natAbs = u := ⟨_, rfl⟩
  obtain ⟨r, hr⟩ : ∃ r, Lib.decDigits u = r := ⟨_, rfl⟩
  have hl : Lib.itoa n = 45 :: r := by unfold Lib.itoa; rw [if_pos n0, hu, hr]
  obtain ⟨f1, f2, f3⟩ := decDigits_facts u
  have hL1 : 1 ≤ r.length := by
    have := decDigits_ne u
    rw [hr] at this
    rcases r with _ | _
    · exact absurd rfl this
    · simp
  have hL2 : r.length ≤ 20 := by rw [← hr]; exact nDigits_le _ (by omega)
  have hdd := dec_digits u
  rw [hr] at f1 f2 hdd
  obtain ⟨b, hb⟩ : ∃ b, ByteArray.mk r.toArray = b := ⟨_, rfl⟩
  obtain ⟨s, hs⟩ : ∃ s, ByteArray.mk (45 :: r).toArray = s := ⟨_, rfl⟩
  have hbl : b.data.toList = r := by rw [← hb]
  have hbz : b.size = r.length := by rw [← hb]; rfl
  have hsz : s.size = r.length + 1 := by rw [← hs]; rfl
  have hex : s.extract 1 (r.length + 1) = b := by rw [← hs, ← hb]; exact mk_extract _ _
  have hpos : 0 < s.size := by omega
  have hs0 : (s[0].toNat : Int) = 45 := by subst hs; rfl
  have HN : Hid (¬ Dec s.data.toList) := by
    show ¬ Dec s.data.toList
    rw [← hs]; exact not_dec_minus r
  have HG : Hid (Digs b.data.toList) := by
    show Digs b.data.toList
    rw [hbl]; exact f1
  have HV : Hid ((val 0 b.data.toList : Int) = -n) := by
    show ((val 0 b.data.toList : Nat) : Int) = -n
    rw [hbl, f2]; omega
  have HH := zhdr_parts t n h1 h2 n1 (by omega) nm hnm hsp w hE _ hl
  rw [hs] at HH
  have HZ : Hid (∀ w', Below w.heap.size w w' → Calls Tryf.prog 9 #[.string b] w' fun e w'' => e = .returned (.bool q) ∧ Below w'.heap.size w' w'') := by
    intro w' hw
    by_cases hmin : n = -9223372036854775808
    · have : q = false := by rw [← hq, hmin]; rfl
      subst this
      exact zdec_no b (by omega) (by rw [hbl, hdd]; omega) t nm w w' hE hw
    · have : q = true := by rw [← hq]; simpa using hmin
      subst this
      exact zdec_yes b (by omega) (by rw [hbl, hdd]; omega) t nm w w' hE hw
  have HE : Hid (Env w t nm) := hE
  rw [List.length_cons] at HH
  clear hl f1 f2 f3 hE hsp hs hb hbl hdd hu hr
  obtain ⟨L, hL⟩ : ∃ L, r.length = L := ⟨_, rfl⟩
  rw [hL] at HH hL1 hL2 hsz hbz hex
  obtain ⟨m, hm⟩ : ∃ m, nm.size = m := ⟨_, rfl⟩
  rw [hm] at HH hnm
  clear hL hm
  have t1 : ¬ t < 1 := by omega
  have t2 : ¬ 4 < t := by omega
  go_enter Tryf.func3, Tryf.ntmps3
  go_wp2_with (go_at_call 8; refine HH.mono ?_; rintro e w1 ⟨g, cap, rfl, hcap, F1, F2, F3, F4, hb⟩)
  go_loop [7] (fun i => ∃ k : Nat, k ≤ m ∧ i = .int .i64 k) (fun i => m + 1 - (intOf i).toNat)
  case atStart => exact ⟨0, Nat.zero_le _, rfl⟩
  case round =>
    obtain ⟨k, hk, rfl⟩ := hrel
    by_cases hlt : k < m
    · obtain ⟨c, hc, hc32⟩ := F1 k hlt
      clear F1 F2 F3 F4
      go_wp2
      go_round
      case rel => exact ⟨k + 1, by omega, by go_num⟩
      case measure => simp [intOf]; omega
    · obtain rfl : k = m := by omega
      clear F1
      go_wp2_with fail
      clear F2 F3 F4
      have hs2 : s.size ≤ 1048576 := by omega
      refine (zdec_no s hs2 HN.out t nm w w1 HE.out hb).mono ?_
      rintro e w2 ⟨rfl, hb2⟩
      have hbt := hb.trans (hb2.mono hb.size)
      clear hb hb2
      go_wp2_with fail
      refine (HZ.out w2 hbt).mono ?_
      rintro e w3 ⟨rfl, hb3⟩
      have hbt3 := hbt.trans (hb3.mono hbt.size)
      clear hbt hb3
      have hfin : (-n == -(n + 1) + 1) = true := by simp; omega
      go_wp2_with (go_at_call 10; refine (pd_any b (by omega) (by omega) HG.out (by have := HV.out; omega) _).mono ?_; rintro e w4 ⟨rfl, rfl⟩; rw [HV.out])
      go_ret
      exact ⟨rfl, hbt3⟩
end Go.Proofs.Qxb6608656aFmt.Dec
