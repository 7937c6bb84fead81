import Derived.Lib.ParseIntB
import Derived.Lib.ItoaNum
import Derived.Lib.ItoaLen
namespace Go.Proofs.Qxb6608656aFmt.Dec
open Go

/-- A byte that is a decimal digit. -/
def isDig (c : UInt8) : Prop := 48 ≤ c.toNat ∧ c.toNat ≤ 57
def Digs (l : List UInt8) : Prop := ∀ c ∈ l, isDig c
/-- What digits spell behind 'acc'. -/
def val (acc : Nat) (l : List UInt8) : Nat := l.foldl (fun a c => a * 10 + (c.toNat - 48)) acc
theorem val_nil (acc : Nat) : val acc [] = acc := rfl
theorem val_cons (acc : Nat) (c : UInt8) (r : List UInt8) : val acc (c :: r) = val (acc * 10 + (c.toNat - 48)) r := by
  unfold val; rw [List.foldl_cons]

theorem val_ge (l : List UInt8) : ∀ acc : Nat, acc ≤ val acc l := by
  induction l with
  | nil => intro acc; rw [val_nil]; exact Nat.le_refl _
  | cons c r ih =>
    intro acc
    have := ih (acc * 10 + (c.toNat - 48))
    rw [val_cons]; omega
theorem val_append (a b : List UInt8) (acc : Nat) : val acc (a ++ b) = val (val acc a) b := by
  unfold val; rw [List.foldl_append]
theorem val_lt : ∀ (l : List UInt8) (acc : Nat), Digs l → val acc l < (acc + 1) * 10 ^ l.length
  | [], acc, _ => by simp [val_nil]
  | c :: r, acc, h => by
    have hc := h c (by simp)
    have ih := val_lt r (acc * 10 + (c.toNat - 48)) (fun x hx => h x (by simp [hx]))
    simp only [val_cons, List.length_cons, Nat.pow_succ]
    have h1 : acc * 10 + (c.toNat - 48) + 1 ≤ (acc + 1) * 10 := by unfold isDig at hc; omega
    calc val (acc * 10 + (c.toNat - 48)) r < (acc * 10 + (c.toNat - 48) + 1) * 10 ^ r.length := ih
      _ ≤ (acc + 1) * 10 * 10 ^ r.length := Nat.mul_le_mul_right _ h1
      _ = (acc + 1) * (10 ^ r.length * 10) := by rw [Nat.mul_assoc, Nat.mul_comm 10]
theorem val_lo : ∀ (l : List UInt8) (acc : Nat), acc * 10 ^ l.length ≤ val acc l
  | [], acc => by simp [val_nil]
  | c :: r, acc => by
    have ih := val_lo r (acc * 10 + (c.toNat - 48))
    simp only [val_cons, List.length_cons, Nat.pow_succ]
    calc acc * (10 ^ r.length * 10) = acc * 10 * 10 ^ r.length := by rw [Nat.mul_comm (10 ^ r.length), Nat.mul_assoc]
      _ ≤ (acc * 10 + (c.toNat - 48)) * 10 ^ r.length := Nat.mul_le_mul_right _ (by omega)
      _ ≤ _ := ih

/-- ParseUint's loop: it ends well exactly at digits whose number fits. -/
theorem parseUintM_iff (M : Nat) (hM : M ≤ 18446744073709551615) : ∀ (l : List UInt8) (acc u : Nat), acc ≤ M → (Lib.parseUintM M acc l = .ok u ↔ Digs l ∧ val acc l ≤ M ∧ u = val acc l)
  | [], acc, u, ha => by
    simp only [Lib.parseUintM, val_nil, Lib.NumEnd.ok.injEq]
    exact ⟨fun h => ⟨fun _ h => by simp at h, ha, h.symm⟩, fun h => h.2.2.symm⟩
  | c :: r, acc, u, ha => by
    simp only [Lib.parseUintM, val_cons]
    by_cases hd : 48 ≤ c.toNat ∧ c.toNat ≤ 57
    · rw [if_pos hd]
      have hval := val_ge r (acc * 10 + (c.toNat - 48))
      have hdig : Digs (c :: r) ↔ Digs r := ⟨fun h x hx => h x (by simp [hx]), fun h x hx => by
        rcases List.mem_cons.1 hx with rfl | hx
        · exact hd
        · exact h x hx⟩
      by_cases h1 : 1844674407370955162 ≤ acc
      · rw [if_pos h1]
        exact ⟨fun h => by simp at h, fun h => by omega⟩
      · rw [if_neg h1]
        by_cases h2 : M < acc * 10 + (c.toNat - 48)
        · rw [if_pos h2]
          exact ⟨fun h => by simp at h, fun h => by omega⟩
        · rw [if_neg h2, parseUintM_iff M hM r _ u (by omega), hdig]
    · rw [if_neg hd]
      exact ⟨fun h => by simp at h, fun h => absurd (h.1 c (by simp)) hd⟩

/-- Did it end well? -/
def okB : Lib.NumEnd Int → Bool
  | .ok _ => true
  | _ => false

/-- ParseInt(l, 10, 64) at a numeral that begins with a digit. -/
theorem parse_ok (c : UInt8) (r : List UInt8) (hc : isDig c) : okB (Lib.parseIntB 64 (c :: r)) = true ↔ Digs (c :: r) ∧ val 0 (c :: r) < 9223372036854775808 := by
  unfold isDig at hc
  have n1 : ¬ (c.toNat = 43 ∨ c.toNat = 45) := by omega
  have n2 : ¬ c.toNat = 45 := by omega
  simp only [Lib.parseIntB, if_neg n1, Lib.parseUintB]
  rw [if_neg (by simp)]
  rcases hu : Lib.parseUintM (2 ^ 64 - 1) 0 (c :: r) with u | _ | _
  · obtain ⟨h1, h2, h3⟩ := (parseUintM_iff (2 ^ 64 - 1) (by decide) (c :: r) 0 u (by decide)).1 hu
    subst h3
    simp only [n2, not_false_eq_true, true_and, false_and, if_false]
    by_cases hb : 2 ^ (64 - 1) ≤ val 0 (c :: r)
    · rw [if_pos hb]
      exact ⟨fun h => by simp [okB] at h, fun h => by have h2 := h.2; simp at hb; omega⟩
    · rw [if_neg hb]
      exact ⟨fun _ => ⟨h1, by simp at hb; omega⟩, fun _ => rfl⟩
  · exact ⟨fun h => by simp [okB] at h, fun h => by
      have := (parseUintM_iff (2 ^ 64 - 1) (by decide) (c :: r) 0 _ (by decide)).2 ⟨h.1, by have := h.2; omega, rfl⟩
      rw [hu] at this; simp at this⟩
  · exact ⟨fun h => by simp [okB] at h, fun h => by
      have := (parseUintM_iff (2 ^ 64 - 1) (by decide) (c :: r) 0 _ (by decide)).2 ⟨h.1, by have := h.2; omega, rfl⟩
      rw [hu] at this; simp at this⟩

/-- What 'decimal' accepts, said plainly. -/
def Dec (l : List UInt8) : Prop := l ≠ [] ∧ Digs l ∧ (∀ r, l = 48 :: r → r = []) ∧ val 0 l < 9223372036854775808


/-! The numeral. -/
theorem val_snoc (l : List UInt8) (c : UInt8) (acc : Nat) : val acc (l ++ [c]) = val acc l * 10 + (c.toNat - 48) := by
  rw [val_append, val_cons, val_nil]
theorem digit_toNat {d : Nat} (h : d < 10) : (UInt8.ofNat (48 + d)).toNat = 48 + d := by
  rw [UInt8.toNat_ofNat']; omega
theorem decDigits_ne (u : Nat) : Lib.decDigits u ≠ [] := by
  intro h
  have := Lib.decDigits_length u
  rw [h] at this
  have := Lib.nDigits_pos u
  simp at *; omega
theorem decDigits_facts (u : Nat) : Digs (Lib.decDigits u) ∧ val 0 (Lib.decDigits u) = u ∧ (∀ r, Lib.decDigits u = 48 :: r → u = 0) := by
  induction u using Nat.strongRecOn with
  | _ u ih =>
    by_cases h : u < 10
    · rw [Lib.decDigits, dif_pos h]
      have hd := digit_toNat h
      refine ⟨fun c hc => ?_, ?_, fun r hr => ?_⟩
      · rw [List.mem_singleton] at hc; subst hc; unfold isDig; omega
      · rw [val_cons, val_nil, hd]; omega
      · injection hr with h1 _
        have := congrArg UInt8.toNat h1
        rw [hd] at this
        have e : (48 : UInt8).toNat = 48 := rfl
        omega
    · rw [Lib.decDigits, dif_neg h]
      obtain ⟨i1, i2, i3⟩ := ih (u / 10) (by omega)
      have hd := digit_toNat (Nat.mod_lt u (by decide : 0 < 10))
      refine ⟨fun c hc => ?_, ?_, fun r hr => ?_⟩
      · rcases List.mem_append.1 hc with hc | hc
        · exact i1 c hc
        · rw [List.mem_singleton] at hc; subst hc; unfold isDig; omega
      · rw [val_snoc, i2, hd]; omega
      · rcases hl : Lib.decDigits (u / 10) with _ | ⟨c, r'⟩
        · exact absurd hl (decDigits_ne _)
        · rw [hl, List.cons_append] at hr
          injection hr with h1 _
          have := i3 r' (by rw [hl, h1])
          omega
theorem decDigits_zero : Lib.decDigits 0 = [48] := by rw [Lib.decDigits, dif_pos (by decide)]; rfl
theorem dec_digits (u : Nat) : Dec (Lib.decDigits u) ↔ u < 9223372036854775808 := by
  obtain ⟨h1, h2, h3⟩ := decDigits_facts u
  refine ⟨fun h => by have := h.2.2.2; rw [h2] at this; exact this, fun h => ⟨decDigits_ne u, h1, fun r hr => ?_, by rw [h2]; exact h⟩⟩
  have h0 := h3 r hr
  subst h0
  rw [decDigits_zero] at hr
  injection hr with _ hr
  exact hr.symm
theorem nDigits_le (u : Nat) (h : u ≤ 9223372036854775808) : (Lib.decDigits u).length ≤ 20 := by
  rw [Lib.decDigits_length]
  rcases Nat.lt_or_ge 20 (Lib.nDigits u) with hn | hn
  · exfalso
    have hk : ∀ k u, k + 1 < Lib.nDigits u → 10 ^ (k + 1) ≤ u := by
      intro k
      induction k with
      | zero =>
        intro u hu
        by_cases hs : u < 10
        · rw [Lib.nDigits_small hs] at hu; omega
        · simpa using Nat.le_of_not_lt hs
      | succ k ih =>
        intro u hu
        by_cases hs : u < 10
        · rw [Lib.nDigits_small hs] at hu; omega
        · rw [Lib.nDigits_big hs] at hu
          have := ih (u / 10) (by omega)
          rw [Nat.pow_succ]; omega
    have := hk 19 u (by omega)
    have e : (10 : Nat) ^ 20 = 100000000000000000000 := by decide
    rw [e] at this; omega
  · exact hn
theorem not_dec_minus (r : List UInt8) : ¬ Dec (45 :: r) := fun h => by
  have := h.2.1 45 (by simp)
  unfold isDig at this
  have e : (45 : UInt8).toNat = 45 := rfl
  omega
end Go.Proofs.Qxb6608656aFmt.Dec
