import Derived.Test.Qxb6608656aFmtRows
import Derived.Test.Qxb6608656aFmtPlain
import Derived.Test.Qxb6608656aFmtShelf
import Derived.WalkKit
import Derived.WalkSpells
import Derived.WalkLawsBesides
import Derived.LoopTactic
import Derived.BigQuiet
import Derived.Deep.QuietTactic
import Derived.RowKit3
namespace Go.Proofs.Qxb6608656aFmt.Dec
open Go.RowKit Go.Shelf
set_option linter.unusedSimpArgs false
set_option linter.unusedVariables false

/-- strconv.ParseInt(s, 10, 64): the error is nil exactly where the numeral is good. -/
theorem parse_any (s : ByteArray) (hmax : s.size ≤ 1048576) (tp tq : TypeId) (p q : Value) (w : World) (hv1 : w.var? Tryf.prog "strconv.ErrSyntax" = some #[.iface tp p]) (hv2 : w.var? Tryf.prog "strconv.ErrRange" = some #[.iface tq q]) :
    Calls Tryf.prog 35 #[.string s, .int .i64 10, .int .i64 64] w fun e w' => (∃ v x, e = .returned (.tuple #[.int .i64 v, x]) ∧ (okB (Lib.parseIntB 64 s.data.toList) = true → x = .nilIface) ∧ (okB (Lib.parseIntB 64 s.data.toList) = false → ∃ N, x = .iface 96 (.pointer (some ⟨N, 0, none⟩)))) ∧ Below w.heap.size w w' := by
  rcases h : Lib.parseIntB 64 s.data.toList with v | _ | _
  · refine (Any.strconv_ParseInt_10_at64_ok Tryf.laysC174 s (by omega) v h w).mono ?_
    rintro e w' ⟨rfl, hw⟩
    refine ⟨⟨v, _, rfl, fun _ => rfl, fun h => by simp [okB] at h⟩, ?_⟩
    rcases hw with rfl | ⟨t, rfl⟩
    · exact Below.refl _ _
    · exact Lib.bytesWorld_below _ _ _
  · refine (Any.strconv_ParseInt_10_at64_syntax_var Tryf.laysC174 s (by omega) h tp p w hv1).mono ?_
    rintro e w' ⟨N, rfl, _, _, hb⟩
    exact ⟨⟨_, _, rfl, fun h => by simp [okB] at h, fun _ => ⟨N, rfl⟩⟩, hb⟩
  · refine (Any.strconv_ParseInt_10_at64_range_var Tryf.laysC174 s (by omega) h tq q w hv2).mono ?_
    rintro e w' ⟨N, rfl, _, _, hb⟩
    exact ⟨⟨_, _, rfl, fun h => by simp [okB] at h, fun _ => ⟨N, rfl⟩⟩, hb⟩

theorem list_cons (s : ByteArray) (h : 0 < s.size) : s.data.toList = s[0] :: s.data.toList.tail := by
  have : s.data.toList ≠ [] := by
    intro e
    have h1 := congrArg List.length e
    have hs : s.size = s.data.size := rfl
    rw [Array.length_toList, List.length_nil] at h1
    omega
  rcases e : s.data.toList with _ | ⟨c, r⟩
  · exact absurd e this
  · have : s[0] = c := by
      have h2 : s.data.toList[0]? = some c := by rw [e]; rfl
      have h3 : s.data.toList[0]? = some s[0] := by
        rw [List.getElem?_eq_getElem (by simpa using h)]; rfl
      rw [h3] at h2; exact Option.some.inj h2
    rw [this]; rfl

/-- It returned whether the bytes are a decimal. -/
def DecEnd (l : List UInt8) (e : Ending) : Prop := ∃ b, e = .returned (.bool b) ∧ (b = true ↔ Dec l)
theorem decEnd_no {l : List UInt8} (h : ¬ Dec l) : DecEnd l (.returned (.bool false)) := ⟨false, rfl, fun h => by simp at h, fun h' => absurd h' h⟩
theorem decEnd_yes {l : List UInt8} (h : Dec l) : DecEnd l (.returned (.bool true)) := ⟨true, rfl, fun _ => h, fun _ => rfl⟩
theorem not_dec_empty {s : ByteArray} (h : s.toList.isEmpty = true) : ¬ Dec s.data.toList := fun hd => hd.1 (by simpa [ByteArray.toList_eq] using h)

section
variable (s : ByteArray) (h0 : 0 < s.size)
theorem not_dec_head (h : (s[0].toNat : Int) < 48 ∨ 57 < (s[0].toNat : Int)) : ¬ Dec s.data.toList := fun hd => by
  have := hd.2.1 s[0] (by rw [list_cons s h0]; simp)
  unfold isDig at this
  omega
theorem not_dec_zero (h : (s[0].toNat : Int) = 48) (h1 : 1 < (s.size : Int)) : ¬ Dec s.data.toList := fun hd => by
  have e : s[0] = 48 := UInt8.toNat_inj.1 (by show s[0].toNat = 48; omega)
  have hl := list_cons s h0
  rw [e] at hl
  have := hd.2.2.1 _ hl
  have h2 := congrArg List.length hl
  rw [this, Array.length_toList] at h2
  have hs : s.size = s.data.size := rfl
  simp at h2
  omega
theorem dec_ok (h : 48 ≤ (s[0].toNat : Int) ∧ (s[0].toNat : Int) ≤ 57) (hz : ¬ (s[0].toNat : Int) = 48 ∨ (s.size : Int) ≤ 1) : okB (Lib.parseIntB 64 s.data.toList) = true ↔ Dec s.data.toList := by
  have hl := list_cons s h0
  have hp := parse_ok s[0] s.data.toList.tail ⟨by omega, by omega⟩
  rw [← hl] at hp
  rw [hp]
  refine ⟨fun h' => ⟨by rw [hl]; simp, h'.1, fun r hr => ?_, h'.2⟩, fun h' => ⟨h'.2.1, h'.2.2.2⟩⟩
  rcases hz with hz | hz
  · rw [hl] at hr
    injection hr with hr _
    exfalso; apply hz; rw [hr]; rfl
  · have h2 := congrArg List.length hr
    rw [Array.length_toList] at h2
    have hs : s.size = s.data.size := rfl
    simp at h2
    exact List.eq_nil_of_length_eq_zero (by omega)
end

set_option maxHeartbeats 1000000 in
/-- decimal: whatever the string. -/
theorem decimal_any (s : ByteArray) (hmax : s.size ≤ 1048576) (tp tq : TypeId) (p q : Value) (w : World) (hv1 : w.var? Tryf.prog "strconv.ErrSyntax" = some #[.iface tp p]) (hv2 : w.var? Tryf.prog "strconv.ErrRange" = some #[.iface tq q]) :
    Calls Tryf.prog 26 #[.string s] w fun e w' => DecEnd s.data.toList e ∧ Below w.heap.size w w' := by
  have HP : Hid (∀ hmax : s.size ≤ 1048576, _) := fun hmax => parse_any s hmax tp tq p q w hv1 hv2
  clear hv1 hv2
  by_cases hem : s.toList.isEmpty = true
  · have hnd := not_dec_empty hem
    go_enter Tryf.func26, Tryf.ntmps26
    go_wp2
    all_goals
      go_ret
      exact ⟨decEnd_no hnd, Below.refl _ _⟩
  have hem' : s.toList.isEmpty = false := by simpa using hem
  have h0 : 0 < s.size := by
    rcases Nat.eq_zero_or_pos s.size with h | h
    · exfalso; apply hem
      have : s.data.toList = [] := List.eq_nil_of_length_eq_zero (by rw [Array.length_toList]; exact h)
      simp [ByteArray.toList_eq, this]
    · exact h
  have N1 := not_dec_head s h0
  have N2 := not_dec_zero s h0
  have D := dec_ok s h0
  have HN1 : Hid _ := N1
  have HN2 : Hid _ := N2
  have HD : Hid _ := D
  clear N1 N2 D hem
  go_enter Tryf.func26, Tryf.ntmps26
  go_wp2_with fail
  · have a1 : (s[0].toNat : Int) = 48 := by assumption
    have a2 : 1 < (s.size : Int) := by assumption
    go_ret
    exact ⟨decEnd_no (HN2.out a1 a2), Below.refl _ _⟩
  · have b1 : 48 ≤ (s[0].toNat : Int) ∧ (s[0].toNat : Int) ≤ 57 := ⟨by omega, by omega⟩
    have b2 : ¬ (s[0].toNat : Int) = 48 ∨ (s.size : Int) ≤ 1 := Or.inr (by assumption)
    refine (HP.out hmax).mono ?_
    rintro e w' ⟨⟨v, x, rfl, hx1, hx2⟩, hb⟩
    by_cases hok : okB (Lib.parseIntB 64 s.data.toList) = true
    · obtain rfl := hx1 hok
      have HK : Hid _ := hok
      clear hx1 hx2 hok
      go_wp2
      go_ret
      exact ⟨decEnd_yes ((HD.out b1 b2).1 HK.out), hb⟩
    · obtain ⟨N, rfl⟩ := hx2 (by simpa using hok)
      have HK : Hid (¬ okB (Lib.parseIntB 64 s.data.toList) = true) := hok
      clear hx1 hx2 hok
      go_wp2
      go_ret
      exact ⟨decEnd_no (fun hd => HK.out ((HD.out b1 b2).2 hd)), hb⟩
  · have b1 : 48 ≤ (s[0].toNat : Int) ∧ (s[0].toNat : Int) ≤ 57 := ⟨by omega, by omega⟩
    have b2 : ¬ (s[0].toNat : Int) = 48 ∨ (s.size : Int) ≤ 1 := Or.inl (by assumption)
    refine (HP.out hmax).mono ?_
    rintro e w' ⟨⟨v, x, rfl, hx1, hx2⟩, hb⟩
    by_cases hok : okB (Lib.parseIntB 64 s.data.toList) = true
    · obtain rfl := hx1 hok
      have HK : Hid _ := hok
      clear hx1 hx2 hok
      go_wp2
      go_ret
      exact ⟨decEnd_yes ((HD.out b1 b2).1 HK.out), hb⟩
    · obtain ⟨N, rfl⟩ := hx2 (by simpa using hok)
      have HK : Hid (¬ okB (Lib.parseIntB 64 s.data.toList) = true) := hok
      clear hx1 hx2 hok
      go_wp2
      go_ret
      exact ⟨decEnd_no (fun hd => HK.out ((HD.out b1 b2).2 hd)), hb⟩
  · go_ret
    exact ⟨decEnd_no (HN1.out (Or.inr (by assumption))), Below.refl _ _⟩
  · go_ret
    exact ⟨decEnd_no (HN1.out (Or.inl (by assumption))), Below.refl _ _⟩

set_option maxHeartbeats 1000000 in
theorem zdecimal_any (s : ByteArray) (hmax : s.size ≤ 1048576) (tp tq : TypeId) (p q : Value) (w : World) (hv1 : w.var? Tryf.prog "strconv.ErrSyntax" = some #[.iface tp p]) (hv2 : w.var? Tryf.prog "strconv.ErrRange" = some #[.iface tq q]) :
    Calls Tryf.prog 9 #[.string s] w fun e w' => DecEnd s.data.toList e ∧ Below w.heap.size w w' := by
  have HP : Hid (∀ hmax : s.size ≤ 1048576, _) := fun hmax => decimal_any s hmax tp tq p q w hv1 hv2
  clear hv1 hv2
  go_enter Tryf.func9, Tryf.ntmps9
  go_wp2_with (go_at_call 26; refine (HP.out hmax).mono ?_; rintro e w' ⟨⟨b, rfl, hbd⟩, hb⟩)
  go_ret
  exact ⟨⟨b, rfl, hbd⟩, hb⟩
end Go.Proofs.Qxb6608656aFmt.Dec
