import Derived.Lib.ParseIntB
namespace Go.Proofs.Qxb6608656aDoor.Dec
open Go

/-- A byte that is a decimal digit. -/
def isDig (c : UInt8) : Prop := 48 ≤ c.toNat ∧ c.toNat ≤ 57
def Digs (l : List UInt8) : Prop := ∀ c ∈ l, isDig c
/-- What digits spell behind 'acc'. -/
def val (acc : Nat) (l : List UInt8) : Nat := l.foldl (fun a c => a * 10 + (c.toNat - 48)) acc
theorem val_nil (acc : Nat) : val acc [] = acc := rfl
theorem val_cons (acc : Nat) (c : UInt8) (r : List UInt8) : val acc (c :: r) = val (acc * 10 + (c.toNat - 48)) r := by
  unfold val; rw [List.foldl_cons]

theorem val_ge (l : List UInt8) : ∀ acc : Nat, acc ≤ val acc l := by
  induction l with
  | nil => intro acc; rw [val_nil]; exact Nat.le_refl _
  | cons c r ih =>
    intro acc
    have := ih (acc * 10 + (c.toNat - 48))
    rw [val_cons]; omega
theorem val_append (a b : List UInt8) (acc : Nat) : val acc (a ++ b) = val (val acc a) b := by
  unfold val; rw [List.foldl_append]
theorem val_lt : ∀ (l : List UInt8) (acc : Nat), Digs l → val acc l < (acc + 1) * 10 ^ l.length
  | [], acc, _ => by simp [val_nil]
  | c :: r, acc, h => by
    have hc := h c (by simp)
    have ih := val_lt r (acc * 10 + (c.toNat - 48)) (fun x hx => h x (by simp [hx]))
    simp only [val_cons, List.length_cons, Nat.pow_succ]
    have h1 : acc * 10 + (c.toNat - 48) + 1 ≤ (acc + 1) * 10 := by unfold isDig at hc; omega
    calc val (acc * 10 + (c.toNat - 48)) r < (acc * 10 + (c.toNat - 48) + 1) * 10 ^ r.length := ih
      _ ≤ (acc + 1) * 10 * 10 ^ r.length := Nat.mul_le_mul_right _ h1
      _ = (acc + 1) * (10 ^ r.length * 10) := by rw [Nat.mul_assoc, Nat.mul_comm 10]
theorem val_lo : ∀ (l : List UInt8) (acc : Nat), acc * 10 ^ l.length ≤ val acc l
  | [], acc => by simp [val_nil]
  | c :: r, acc => by
    have ih := val_lo r (acc * 10 + (c.toNat - 48))
    simp only [val_cons, List.length_cons, Nat.pow_succ]
    calc acc * (10 ^ r.length * 10) = acc * 10 * 10 ^ r.length := by rw [Nat.mul_comm (10 ^ r.length), Nat.mul_assoc]
      _ ≤ (acc * 10 + (c.toNat - 48)) * 10 ^ r.length := Nat.mul_le_mul_right _ (by omega)
      _ ≤ _ := ih

/-- ParseUint's loop: it ends well exactly at digits whose number fits. -/
theorem parseUintM_iff (M : Nat) (hM : M ≤ 18446744073709551615) : ∀ (l : List UInt8) (acc u : Nat), acc ≤ M → (Lib.parseUintM M acc l = .ok u ↔ Digs l ∧ val acc l ≤ M ∧ u = val acc l)
  | [], acc, u, ha => by
    simp only [Lib.parseUintM, val_nil, Lib.NumEnd.ok.injEq]
    exact ⟨fun h => ⟨fun _ h => by simp at h, ha, h.symm⟩, fun h => h.2.2.symm⟩
  | c :: r, acc, u, ha => by
    simp only [Lib.parseUintM, val_cons]
    by_cases hd : 48 ≤ c.toNat ∧ c.toNat ≤ 57
    · rw [if_pos hd]
      have hval := val_ge r (acc * 10 + (c.toNat - 48))
      have hdig : Digs (c :: r) ↔ Digs r := ⟨fun h x hx => h x (by simp [hx]), fun h x hx => by
        rcases List.mem_cons.1 hx with rfl | hx
        · exact hd
        · exact h x hx⟩
      by_cases h1 : 1844674407370955162 ≤ acc
      · rw [if_pos h1]
        exact ⟨fun h => by simp at h, fun h => by omega⟩
      · rw [if_neg h1]
        by_cases h2 : M < acc * 10 + (c.toNat - 48)
        · rw [if_pos h2]
          exact ⟨fun h => by simp at h, fun h => by omega⟩
        · rw [if_neg h2, parseUintM_iff M hM r _ u (by omega), hdig]
    · rw [if_neg hd]
      exact ⟨fun h => by simp at h, fun h => absurd (h.1 c (by simp)) hd⟩

/-- Did it end well? -/
def okB : Lib.NumEnd Int → Bool
  | .ok _ => true
  | _ => false

/-- ParseInt(l, 10, 64) at a numeral that begins with a digit. -/
theorem parse_ok (c : UInt8) (r : List UInt8) (hc : isDig c) : okB (Lib.parseIntB 64 (c :: r)) = true ↔ Digs (c :: r) ∧ val 0 (c :: r) < 9223372036854775808 := by
  unfold isDig at hc
  have n1 : ¬ (c.toNat = 43 ∨ c.toNat = 45) := by omega
  have n2 : ¬ c.toNat = 45 := by omega
  simp only [Lib.parseIntB, if_neg n1, Lib.parseUintB]
  rw [if_neg (by simp)]
  rcases hu : Lib.parseUintM (2 ^ 64 - 1) 0 (c :: r) with u | _ | _
  · obtain ⟨h1, h2, h3⟩ := (parseUintM_iff (2 ^ 64 - 1) (by decide) (c :: r) 0 u (by decide)).1 hu
    subst h3
    simp only [n2, not_false_eq_true, true_and, false_and, if_false]
    by_cases hb : 2 ^ (64 - 1) ≤ val 0 (c :: r)
    · rw [if_pos hb]
      exact ⟨fun h => by simp [okB] at h, fun h => by have h2 := h.2; simp at hb; omega⟩
    · rw [if_neg hb]
      exact ⟨fun _ => ⟨h1, by simp at hb; omega⟩, fun _ => rfl⟩
  · exact ⟨fun h => by simp [okB] at h, fun h => by
      have := (parseUintM_iff (2 ^ 64 - 1) (by decide) (c :: r) 0 _ (by decide)).2 ⟨h.1, by have := h.2; omega, rfl⟩
      rw [hu] at this; simp at this⟩
  · exact ⟨fun h => by simp [okB] at h, fun h => by
      have := (parseUintM_iff (2 ^ 64 - 1) (by decide) (c :: r) 0 _ (by decide)).2 ⟨h.1, by have := h.2; omega, rfl⟩
      rw [hu] at this; simp at this⟩

/-- What 'decimal' accepts, said plainly. -/
def Dec (l : List UInt8) : Prop := l ≠ [] ∧ Digs l ∧ (∀ r, l = 48 :: r → r = []) ∧ val 0 l < 9223372036854775808

theorem dec_prefix {a b : List UInt8} (h : Dec (a ++ b)) (ha : a ≠ []) : Dec a := by
  obtain ⟨_, h2, h3, h4⟩ := h
  refine ⟨ha, fun c hc => h2 c (by simp [hc]), fun r hr => ?_, ?_⟩
  · have := h3 (r ++ b) (by rw [hr]; rfl)
    exact (List.append_eq_nil_iff.1 this).1
  · rw [val_append] at h4
    have := val_ge b (val 0 a)
    omega

/-- Dictionary order, as the model's loop reads it. -/
def lexle : List UInt8 → List UInt8 → Bool
  | a :: as, b :: bs => if a = b then lexle as bs else decide (a.toNat < b.toNat)
  | _, _ => true

theorem val_cross : ∀ (a b : List UInt8) (x y : Nat), Digs a → a.length = b.length → x < y → val x a < val y b
  | [], [], x, y, _, _, h => h
  | a :: as, b :: bs, x, y, hd, hl, h => by
    have ha := hd a (by simp)
    simp only [val_cons]
    exact val_cross as bs _ _ (fun c hc => hd c (by simp [hc])) (by simpa using hl) (by unfold isDig at ha; omega)
  | [], _ :: _, _, _, _, hl, _ => by simp at hl
  | _ :: _, [], _, _, _, hl, _ => by simp at hl

theorem lexle_iff : ∀ (a b : List UInt8) (x : Nat), Digs a → Digs b → a.length = b.length → (lexle a b = true ↔ val x a ≤ val x b)
  | [], [], x, _, _, _ => by simp [lexle, val_nil]
  | a :: as, b :: bs, x, ha, hb, hl => by
    have h1 := ha a (by simp)
    have h2 := hb b (by simp)
    have ha' : Digs as := fun c hc => ha c (by simp [hc])
    have hb' : Digs bs := fun c hc => hb c (by simp [hc])
    have hl' : as.length = bs.length := by simpa using hl
    unfold isDig at h1 h2
    simp only [lexle, val_cons]
    by_cases e : a = b
    · subst e
      rw [if_pos rfl]
      exact lexle_iff as bs _ ha' hb' hl'
    · rw [if_neg e]
      have hne : a.toNat ≠ b.toNat := fun h => e (UInt8.toNat_inj.1 h)
      by_cases hlt : a.toNat < b.toNat
      · have := val_cross as bs (x * 10 + (a.toNat - 48)) (x * 10 + (b.toNat - 48)) ha' hl' (by omega)
        simp only [decide_eq_true_eq]; constructor
        · intro _; omega
        · intro _; exact hlt
      · have := val_cross bs as (x * 10 + (b.toNat - 48)) (x * 10 + (a.toNat - 48)) hb' hl'.symm (by omega)
        simp only [decide_eq_true_eq]; constructor
        · intro h; omega
        · intro h; omega
  | [], _ :: _, _, _, _, hl => by simp at hl
  | _ :: _, [], _, _, _, hl => by simp at hl

/-- 9223372036854775807, as the model spells it. -/
def top : List UInt8 := [57, 50, 50, 51, 51, 55, 50, 48, 51, 54, 56, 53, 52, 55, 55, 53, 56, 48, 55]

theorem digs_top : Digs top := by unfold Digs isDig top; decide
/-- What the model accepts. -/
def Model (l : List UInt8) : Prop := l ≠ [] ∧ l.length ≤ 19 ∧ Digs l ∧ (∀ r, l = 48 :: r → r = []) ∧ (l.length < 19 ∨ lexle l top = true)

theorem model_iff (l : List UInt8) : Model l ↔ Dec l := by
  constructor
  · rintro ⟨h1, h2, h3, h4, h5⟩
    refine ⟨h1, h3, h4, ?_⟩
    rcases h5 with h5 | h5
    · have hv := val_lt l 0 h3
      have hp : 10 ^ l.length ≤ 10 ^ 18 := Nat.pow_le_pow_right (by decide) (by omega)
      have : (10 : Nat) ^ 18 = 1000000000000000000 := by decide
      omega
    · by_cases h6 : l.length < 19
      · have hv := val_lt l 0 h3
        have hp : 10 ^ l.length ≤ 10 ^ 18 := Nat.pow_le_pow_right (by decide) (by omega)
        have : (10 : Nat) ^ 18 = 1000000000000000000 := by decide
        omega
      · have := (lexle_iff l top 0 h3 digs_top (by simp [top]; omega)).1 h5
        have ht : val 0 top = 9223372036854775807 := by decide
        omega
  · rintro ⟨h1, h2, h3, h4⟩
    have hlen : l.length ≤ 19 := by
      rcases l with _ | ⟨c, r⟩
      · exact absurd rfl h1
      · have hc := h2 c (by simp)
        unfold isDig at hc
        by_cases e : c.toNat = 48
        · have : c = 48 := UInt8.toNat_inj.1 e
          have := h3 r (by rw [this])
          simp [this]
        · have hlo := val_lo r (c.toNat - 48)
          simp only [val_cons, Nat.zero_mul, Nat.zero_add] at h4
          have : 10 ^ r.length < 10 ^ 19 := by
            have e19 : (10 : Nat) ^ 19 = 10000000000000000000 := by decide
            have : 1 * 10 ^ r.length ≤ (c.toNat - 48) * 10 ^ r.length := Nat.mul_le_mul_right _ (by omega)
            omega
          have := (Nat.pow_lt_pow_iff_right (a := 10) (by decide)).1 this
          simp; omega
    refine ⟨h1, hlen, h2, h3, ?_⟩
    by_cases h6 : l.length < 19
    · exact Or.inl h6
    · right
      rw [lexle_iff l top 0 h2 digs_top (by simp [top]; omega)]
      have ht : val 0 top = 9223372036854775807 := by decide
      omega
end Go.Proofs.Qxb6608656aDoor.Dec
