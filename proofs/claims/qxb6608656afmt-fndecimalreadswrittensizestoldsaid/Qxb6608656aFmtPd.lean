import Derived.Test.Qxb6608656aFmtRows
import Derived.Test.Qxb6608656aFmtPlain
import Derived.WalkKit
import Derived.WalkSpells
import Derived.WalkLawsBesides
import Derived.LoopTactic
import Derived.RowKit3
namespace Go.Proofs.Qxb6608656aFmt.Dec
open Go.RowKit
set_option linter.unusedSimpArgs false
set_option linter.unusedVariables false
theorem val_take (l : List UInt8) (k : Nat) (hk : k < l.length) : val 0 (l.take (k + 1)) = val 0 (l.take k) * 10 + (l[k].toNat - 48) := by
  rw [List.take_succ_eq_append_getElem hk, val_snoc]
theorem val_take_le (l : List UInt8) (k : Nat) : val 0 (l.take k) ≤ val 0 l := by
  conv => rhs; rw [← List.take_append_drop k l, val_append]
  exact val_ge _ _
theorem pd_any (s : ByteArray) (h1 : 0 < s.size) (h2 : s.size ≤ 20) (hd : Digs s.data.toList) (hv : val 0 s.data.toList < 18446744073709551616) (w : World) :
    Calls Tryf.prog 10 #[.string s] w fun e w' => e = .returned (.tuple #[.int .u64 (val 0 s.data.toList : Nat), .bool true]) ∧ w = w' := by
  have hD : ∀ (k : Nat) (hk : k < s.size), 48 ≤ (s[k].toNat : Int) ∧ (s[k].toNat : Int) ≤ 57 ∧ (val 0 (s.data.toList.take (k + 1)) : Int) = (val 0 (s.data.toList.take k) : Int) * 10 + ((s[k].toNat : Int) - 48) ∧ (val 0 (s.data.toList.take (k + 1)) : Int) < 18446744073709551616 := by
    intro k hk
    have hl : k < s.data.toList.length := by simpa using hk
    have e : s.data.toList[k] = s[k] := rfl
    have hx := hd s[k] (e ▸ List.getElem_mem hl)
    have hy := val_take s.data.toList k hl
    have hz := val_take_le s.data.toList (k + 1)
    rw [e] at hy
    unfold isDig at hx
    refine ⟨by omega, by omega, by omega, by omega⟩
  have HV : Hid (val 0 (s.data.toList.take s.size) = val 0 s.data.toList) := by
    show _ = _
    rw [List.take_of_length_le (by simp)]
  have HD : Hid (∀ (k : Nat) (hk : k < s.size), 48 ≤ (s[k].toNat : Int) ∧ (s[k].toNat : Int) ≤ 57 ∧ (val 0 (s.data.toList.take (k + 1)) : Int) = (val 0 (s.data.toList.take k) : Int) * 10 + ((s[k].toNat : Int) - 48) ∧ (val 0 (s.data.toList.take (k + 1)) : Int) < 18446744073709551616) := hD
  clear hD hd hv
  have c1 : ¬ s = ByteArray.empty := by intro h; subst h; simp at h1
  have c2 : ¬ 20 < (s.size : Int) := by omega
  go_enter Tryf.func10, Tryf.ntmps10
  go_wp2
  go_loop [4, 5] (fun v i => ∃ (k : Nat), k ≤ s.size ∧ i = .int .i64 k ∧ v = .int .u64 (val 0 (s.data.toList.take k) : Nat)) (fun _ i => s.size - (intOf i).toNat)
  case atStart => exact ⟨0, Nat.zero_le _, rfl, rfl⟩
  case round =>
    obtain ⟨k, hk, rfl, rfl⟩ := hrel
    by_cases hlt : k < s.size
    · obtain ⟨d1, d2, d3, d4⟩ := HD.out k hlt
      obtain ⟨V, hV⟩ : ∃ V, val 0 (s.data.toList.take k) = V := ⟨_, rfl⟩
      obtain ⟨U, hU⟩ : ∃ U, val 0 (s.data.toList.take (k + 1)) = U := ⟨_, rfl⟩
      rw [hV] at d3 ⊢
      rw [hU] at d3 d4
      have HU : Hid (val 0 (s.data.toList.take (k + 1)) = U) := hU
      clear hV hU
      have e1 : ¬ (s[k].toNat : Int) < 48 := by omega
      have e2 : ¬ 57 < (s[k].toNat : Int) := by omega
      go_wp2
      go_round
      case rel => exact ⟨k + 1, by omega, by go_num, by rw [HU.out]; go_num⟩
      case measure => simp [intOf]; omega
    · obtain rfl : k = s.size := by omega
      rw [HV.out]
      go_wp2
      exact bodyPost_ret (v := .tuple #[.int .u64 (val 0 s.data.toList : Nat), .bool true]) (by simp [results, Tryf.results10, go_sem]) rfl ⟨rfl, rfl⟩
end Go.Proofs.Qxb6608656aFmt.Dec
