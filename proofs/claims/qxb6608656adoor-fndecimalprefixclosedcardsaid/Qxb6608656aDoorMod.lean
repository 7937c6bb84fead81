import Derived.Test.Qxb6608656aDoorDec
namespace Go.Proofs.Qxb6608656aDoor.Dec
open Go.RowKit Go.Shelf
set_option linter.unusedSimpArgs false
set_option linter.unusedVariables false

/-- It returned whether the model accepts the bytes. -/
def ModEnd (l : List UInt8) (e : Ending) : Prop := ∃ b, e = .returned (.bool b) ∧ (b = true ↔ Model l)

theorem modEnd_no {l : List UInt8} (h : ¬ Model l) : ModEnd l (.returned (.bool false)) := ⟨false, rfl, fun h => by simp at h, fun h' => absurd h' h⟩
theorem modEnd_yes {l : List UInt8} (h : Model l) : ModEnd l (.returned (.bool true)) := ⟨true, rfl, fun _ => h, fun _ => rfl⟩
theorem size_len (s : ByteArray) : s.data.toList.length = s.size := by rw [Array.length_toList]; rfl
theorem get_list (s : ByteArray) (j : Nat) (h : j < s.size) : s.data.toList[j]'(by rw [size_len]; exact h) = s[j] := rfl
theorem not_mod_dig (s : ByteArray) (k : Nat) (hk : k < s.size) (h : (s[k].toNat : Int) < 48 ∨ 57 < (s[k].toNat : Int)) : ¬ Model s.data.toList := fun hm => by
  have := hm.2.2.1 s[k] (by rw [← get_list s k hk]; exact List.getElem_mem _)
  unfold isDig at this
  omega
theorem digs_of (s : ByteArray) (h : ∀ j (hs : j < s.size), isDig s[j]) : Digs s.data.toList := fun c hc => by
  obtain ⟨i, hi, rfl⟩ := List.getElem_of_mem hc
  rw [size_len] at hi
  exact h i hi
theorem not_mod_zero (s : ByteArray) (h0 : 0 < s.size) (h : ((s[0].toNat : Int) == 48) = true) (h1 : 1 < (s.size : Int)) : ¬ Model s.data.toList := fun hm => by
  have h48 : (s[0].toNat : Int) = 48 := by simpa using h
  have e : s[0] = 48 := UInt8.toNat_inj.1 (by show s[0].toNat = 48; omega)
  have hl := list_cons s h0
  rw [e] at hl
  have := hm.2.2.2.1 _ hl
  have h2 := congrArg List.length hl
  rw [this, size_len] at h2
  simp at h2
  omega
theorem lead_ok (s : ByteArray) (h0 : 0 < s.size) (h : ((s[0].toNat : Int) == 48) = false ∨ (s.size : Int) ≤ 1) : ∀ r, s.data.toList = 48 :: r → r = [] := fun r hr => by
  rcases h with h | h
  · rw [list_cons s h0] at hr
    injection hr with hr _
    rw [hr] at h; simp at h
  · have h2 := congrArg List.length hr
    rw [size_len] at h2
    simp at h2
    exact List.eq_nil_of_length_eq_zero (by omega)
theorem mod_short (s : ByteArray) (h0 : 0 < s.size) (hs : (s.size : Int) < 19) (hd : ∀ j (hs : j < s.size), isDig s[j]) (h : ((s[0].toNat : Int) == 48) = false ∨ (s.size : Int) ≤ 1) : Model s.data.toList :=
  ⟨by rw [list_cons s h0]; simp, by rw [size_len]; omega, digs_of s hd, lead_ok s h0 h, Or.inl (by rw [size_len]; omega)⟩
theorem mod_long (s : ByteArray) (hs : s.size = 19) (hd : ∀ j (hs : j < s.size), isDig s[j]) (h : ((s[0].toNat : Int) == 48) = false ∨ (s.size : Int) ≤ 1) : Model s.data.toList ↔ lexle s.data.toList top = true :=
  ⟨fun hm => hm.2.2.2.2.resolve_left (by rw [size_len]; omega), fun hl => ⟨by rw [list_cons s (by omega)]; simp, by rw [size_len]; omega, digs_of s hd, lead_ok s (by omega) h, Or.inr hl⟩⟩
theorem lex_drop (s : ByteArray) (hs : s.size = 19) (k : Nat) (hk : k < 19) : lexle (s.data.toList.drop k) (top.drop k) = if s[k] = top[k]'(by simpa [top] using hk) then lexle (s.data.toList.drop (k + 1)) (top.drop (k + 1)) else decide (s[k].toNat < (top[k]'(by simpa [top] using hk)).toNat) := by
  rw [List.drop_eq_getElem_cons (by rw [size_len]; omega), List.drop_eq_getElem_cons (l := top) (by simpa [top] using hk), lexle, get_list s k (by omega)]

theorem top_get (k : Nat) (hk : k < 19) : top[k]'(by simpa [top] using hk) = (ByteArray.mk #[57, 50, 50, 51, 51, 55, 50, 48, 51, 54, 56, 53, 52, 55, 55, 53, 56, 48, 55])[k]'(by exact hk) := rfl
theorem lex_next (s : ByteArray) (hs : s.size = 19) (k : Nat) (hk : k < 19) (h : ((s[k].toNat : Int) != (((ByteArray.mk #[57, 50, 50, 51, 51, 55, 50, 48, 51, 54, 56, 53, 52, 55, 55, 53, 56, 48, 55])[k]'(by exact hk)).toNat : Int)) = false) : lexle (s.data.toList.drop k) (top.drop k) = lexle (s.data.toList.drop (k + 1)) (top.drop (k + 1)) := by
  have e : s[k] = top[k]'(by simpa [top] using hk) := by
    rw [top_get k hk]
    have : (s[k].toNat : Int) = (((ByteArray.mk #[57, 50, 50, 51, 51, 55, 50, 48, 51, 54, 56, 53, 52, 55, 55, 53, 56, 48, 55])[k]'(by exact hk)).toNat : Int) := by simpa using h
    exact UInt8.toNat_inj.1 (by omega)
  rw [lex_drop s hs k hk, if_pos e]
theorem lex_stop (s : ByteArray) (hs : s.size = 19) (k : Nat) (hk : k < 19) (h : ((s[k].toNat : Int) != (((ByteArray.mk #[57, 50, 50, 51, 51, 55, 50, 48, 51, 54, 56, 53, 52, 55, 55, 53, 56, 48, 55])[k]'(by exact hk)).toNat : Int)) = true) : lexle (s.data.toList.drop k) (top.drop k) = decide ((s[k].toNat : Int) < (((ByteArray.mk #[57, 50, 50, 51, 51, 55, 50, 48, 51, 54, 56, 53, 52, 55, 55, 53, 56, 48, 55])[k]'(by exact hk)).toNat : Int)) := by
  have e : ¬ s[k] = top[k]'(by simpa [top] using hk) := by
    rw [top_get k hk]
    intro e; rw [e] at h; simp at h
  rw [lex_drop s hs k hk, if_neg e, top_get k hk]
  simp
theorem drew3 (w : World) (a b c : Nat) : ((w.drewN a).drewN b).drewN c = w.drewN (a + b + c) := by simp [World.drewN, Nat.add_assoc]
theorem modEnd_of {l : List UInt8} {b : Bool} (h : Model l ↔ b = true) : ModEnd l (.returned (.bool b)) := ⟨b, rfl, h.symm⟩

set_option maxHeartbeats 2000000 in
theorem model_any (s : ByteArray) (hmax : s.size ≤ 1048576) (w : World) :
    Calls Tryd.prog 6 #[.string s] w fun e w' => ModEnd s.data.toList e ∧ ∃ n, w' = w.drewN n := by
  by_cases hz : (s.size : Int) = 0
  · have hz1 : ((s.size : Int) == 0) = true := by simpa using hz
    have hn : ¬ Model s.data.toList := fun hm => hm.1 (List.eq_nil_of_length_eq_zero (by rw [size_len]; omega))
    have HN : Hid (¬ Model s.data.toList) := hn
    clear hn hz
    go_enter Tryd.func6, Tryd.ntmps6
    go_wp2
    go_ret
    exact ⟨modEnd_no HN.out, 0, rfl⟩
  by_cases hb : (19 : Int) < (s.size : Int)
  · have hz1 : ((s.size : Int) == 0) = false := by simpa using hz
    have hn : ¬ Model s.data.toList := fun hm => by have := hm.2.1; rw [size_len] at this; omega
    have HN : Hid (¬ Model s.data.toList) := hn
    clear hn hz
    go_enter Tryd.func6, Tryd.ntmps6
    go_wp2
    go_ret
    exact ⟨modEnd_no HN.out, 0, rfl⟩
  have hz1 : ((s.size : Int) == 0) = false := by simpa using hz
  go_enter Tryd.func6, Tryd.ntmps6
  go_wp2
  go_loop [4] (fun i => ∃ k : Nat, k ≤ s.size ∧ i = .int .i64 k ∧ ∀ j (hj : j < k) (hs : j < s.size), isDig s[j]) (fun i => s.size - (intOf i).toNat)
  case atStart => exact ⟨0, Nat.zero_le _, rfl, fun j hj => absurd hj (Nat.not_lt_zero _)⟩
  case round =>
    obtain ⟨k, hk, rfl, hd⟩ := hrel
    have HD : Hid (∀ j (hj : j < k) (hs : j < s.size), isDig s[j]) := hd
    clear hd
    by_cases hlt : k < s.size
    · go_wp2
      · have a1 : (s[k].toNat : Int) < 48 ∨ 57 < (s[k].toNat : Int) := by assumption
        go_ret
        exact ⟨modEnd_no (not_mod_dig s k hlt a1), 0, rfl⟩
      · have a1 : 48 ≤ (s[k].toNat : Int) ∧ (s[k].toNat : Int) ≤ 57 := by assumption
        go_round
        case rel =>
          refine ⟨k + 1, by omega, by go_num, fun j hj hs => ?_⟩
          by_cases e : j = k
          · subst e; exact ⟨by omega, by omega⟩
          · exact HD.out j (by omega) hs
        case measure => simp [intOf]; omega
      · have a1 : (s[k].toNat : Int) < 48 := by assumption
        go_ret
        exact ⟨modEnd_no (not_mod_dig s k hlt (Or.inl a1)), 0, rfl⟩
    · have HA : Hid (∀ j (hs : j < s.size), isDig s[j]) := fun j hs => HD.out j (by omega) hs
      clear HD
      have h0 : 0 < s.size := by omega
      go_wp2
      · have a1 : ((s[0].toNat : Int) == 48) = true := by assumption
        have a2 : 1 < (s.size : Int) := by assumption
        go_ret
        exact ⟨modEnd_no (not_mod_zero s h0 a1 a2), 0, rfl⟩
      · have a1 : ((s[0].toNat : Int) == 48) = false := by assumption
        have a2 : (s.size : Int) < 19 := by assumption
        go_ret
        exact ⟨modEnd_yes (mod_short s h0 a2 HA.out (Or.inl a1)), 0, rfl⟩
      · have a1 : ((s[0].toNat : Int) == 48) = false := by assumption
        have h19 : s.size = 19 := by omega
        have HL : Hid (Model s.data.toList ↔ lexle s.data.toList top = true) := mod_long s h19 HA.out (Or.inl a1)
        have H19 : Hid (s.size = 19) := h19
        clear HA a1 h19
        go_loopw [5] (fun i wr => ∃ k n : Nat, k ≤ 19 ∧ i = .int .i64 k ∧ lexle s.data.toList top = lexle (s.data.toList.drop k) (top.drop k) ∧ wr = w.drewN n) (fun i _ => 19 - (intOf i).toNat)
        case atStart => exact ⟨0, 0, by omega, rfl, by simp, rfl⟩
        case round =>
          obtain ⟨k', n, hk', rfl, hlx, rfl⟩ := hrel
          have HX : Hid (lexle s.data.toList top = lexle (s.data.toList.drop k') (top.drop k')) := hlx
          clear hlx
          by_cases hlt' : k' < 19
          · have i0 : (0 : Int) ≤ (k' : Int) := by omega
            have i1 : (k' : Int) < (s.size : Int) := by have := H19.out; omega
            have i2 : (k' : Int) < 19 := by omega
            have i3 : k' < s.size := by have := H19.out; omega
            go_wp2
            go_quiet (fail)
            go_wp2
            · have ht : ((s[k'].toNat : Int) != (((ByteArray.mk #[57, 50, 50, 51, 51, 55, 50, 48, 51, 54, 56, 53, 52, 55, 55, 53, 56, 48, 55])[k']'(by exact hlt')).toNat : Int)) = true := by assumption
              go_quiet (fail)
              go_wp2
              go_ret
              exact ⟨modEnd_of (by rw [HL.out, HX.out, lex_stop s H19.out k' hlt' ht]; simp), _, drew3 _ _ _ _⟩
            · have ht : ((s[k'].toNat : Int) != (((ByteArray.mk #[57, 50, 50, 51, 51, 55, 50, 48, 51, 54, 56, 53, 52, 55, 55, 53, 56, 48, 55])[k']'(by exact hlt')).toNat : Int)) = false := by assumption
              go_roundw
              case rel => exact ⟨k' + 1, n + nq, by omega, by go_num, by rw [HX.out]; exact lex_next s H19.out k' hlt' ht, rfl⟩
              case measure => simp [intOf]; omega
          · have i1 : ¬ (k' : Int) < (s.size : Int) := by have := H19.out; omega
            go_wp2
            go_ret
            exact ⟨modEnd_yes (HL.out.2 (by rw [HX.out, List.drop_eq_nil_of_le (by rw [size_len]; have := H19.out; omega)]; rfl)), n, rfl⟩
      · have a2 : (s.size : Int) < 19 := by assumption
        have a3 : (s.size : Int) ≤ 1 := by assumption
        go_ret
        exact ⟨modEnd_yes (mod_short s h0 a2 HA.out (Or.inr a3)), 0, rfl⟩
end Go.Proofs.Qxb6608656aDoor.Dec
