import Derived.Test.Qxb6608656aFmtDec
import Derived.Test.Qxb6608656aFmtHdr
import Derived.Test.Qxb6608656aFmtPd
import Derived.Laws.IdiomStrings
namespace Go.Proofs.Qxb6608656aFmt.Dec
open Go.RowKit
set_option linter.unusedSimpArgs false
set_option linter.unusedVariables false
theorem var_keep {n : String} {cs : Array Value} {W W' : World} (hv : W.var? Tryf.prog n = some cs) (hb : Below W.heap.size W W') : W'.var? Tryf.prog n = some cs := by
  unfold World.var? at hv ⊢
  rcases hg : Tryf.prog.globalNamed n with _ | g
  · rw [hg] at hv; simp at hv
  · rw [hg] at hv
    simp only [Option.bind_some] at hv ⊢
    have hlt : g < W.heap.size := by
      rcases Nat.lt_or_ge g W.heap.size with h | h
      · exact h
      · rw [Array.getElem?_eq_none h] at hv; simp at hv
    rw [hb.block g hlt]
    exact hv
/-- What the walk needs of the package-level variables. -/
def Env (w : World) (t : Int) (nm : ByteArray) : Prop :=
  (∃ p, w.var? Tryf.prog "strconv.ErrSyntax" = some #[.iface 89 p]) ∧ (∃ q, w.var? Tryf.prog "strconv.ErrRange" = some #[.iface 89 q]) ∧
  w.cell? ⟨0, t.toNat, none⟩ = some (.string nm) ∧ Lib.TabIs Tryf.prog w nm10 .u64 Lib.pow10Tab
theorem zdec_yes (s : ByteArray) (hs : s.size ≤ 1048576) (hd : Dec s.data.toList) (t : Int) (nm : ByteArray) (w0 w : World) (hE : Env w0 t nm) (hb : Below w0.heap.size w0 w) :
    Calls Tryf.prog 9 #[.string s] w fun e w' => e = .returned (.bool true) ∧ Below w.heap.size w w' := by
  obtain ⟨⟨p, hp⟩, ⟨q, hq⟩, -, -⟩ := hE
  refine (zdecimal_any s hs 89 89 p q w (var_keep hp hb) (var_keep hq hb)).mono ?_
  rintro e w' ⟨⟨b, rfl, h⟩, hb'⟩
  obtain rfl : b = true := h.2 hd
  exact ⟨rfl, hb'⟩
theorem zdec_no (s : ByteArray) (hs : s.size ≤ 1048576) (hd : ¬ Dec s.data.toList) (t : Int) (nm : ByteArray) (w0 w : World) (hE : Env w0 t nm) (hb : Below w0.heap.size w0 w) :
    Calls Tryf.prog 9 #[.string s] w fun e w' => e = .returned (.bool false) ∧ Below w.heap.size w w' := by
  obtain ⟨⟨p, hp⟩, ⟨q, hq⟩, -, -⟩ := hE
  refine (zdecimal_any s hs 89 89 p q w (var_keep hp hb) (var_keep hq hb)).mono ?_
  rintro e w' ⟨⟨b, rfl, h⟩, hb'⟩
  obtain rfl : b = false := by
    rcases b with _ | _
    · rfl
    · exact absurd (h.1 rfl) hd
  exact ⟨rfl, hb'⟩

/-- The header in memory, said by its pieces. -/
theorem zhdr_parts (t n : Int) (h1 : 1 ≤ t) (h2 : t ≤ 4) (n0 : -9223372036854775808 ≤ n) (n1 : n ≤ 9223372036854775807) (nm : ByteArray) (hnm : nm.size ≤ 100) (hsp : ∀ c ∈ nm.data.toList, c.toNat ≠ 32) (w : World) (hE : Env w t nm)
    (l : List UInt8) (hl : Lib.itoa n = l) :
    Calls Tryf.prog 8 #[.slice none 0 0, .int .i8 t, .int .i64 n] w fun e w' => ∃ g cap, e = .returned (.slice (some ⟨g, 0, none⟩) (nm.size + l.length + 2) cap) ∧ nm.size + l.length + 2 ≤ cap ∧
      (∀ k : Nat, k < nm.size → ∃ c : Int, w'.cell? ⟨g, k, none⟩ = some (.int .u8 c) ∧ ¬ c = 32) ∧ w'.cell? ⟨g, nm.size, none⟩ = some (.int .u8 32) ∧ w'.cell? ⟨g, nm.size + l.length + 1, none⟩ = some (.int .u8 0) ∧
      (∀ c, (convert 23 9 (.slice (some ⟨g, nm.size + 1, none⟩) l.length c)).run Tryf.prog w' = .ok (.string ⟨l.toArray⟩) w') ∧ Below w.heap.size w w' := by
  subst hl
  refine (zhdr_any t n h1 h2 n0 n1 nm hnm w hE.2.2.1 hE.2.2.2).mono ?_
  rintro e w' ⟨g, cap, rfl, hcap, hc, -, -, hb⟩
  have hs : nm.data.size = nm.size := rfl
  have hN : (hd nm n).length = nm.size + (Lib.itoa n).length + 2 := by simp [hd, hs]; omega
  have hlen : nm.data.toList.length = nm.size := by simp
  rw [hN] at hcap
  refine ⟨g, cap, by rw [hN], hcap, fun k hk => ?_, ?_, ?_, fun c => ?_, hb⟩
  · refine ⟨_, hc k (by omega), ?_⟩
    have e : (hd nm n)[k]'(by omega) = nm.data.toList[k]'(by omega) := List.getElem_append_left (by omega)
    rw [e]
    have := hsp _ (List.getElem_mem (l := nm.data.toList) (by omega : k < nm.data.toList.length))
    omega
  · rw [hc nm.size (by omega)]
    have e : (hd nm n)[nm.size]'(by omega) = 32 := by
      unfold hd
      rw [List.getElem_append_right (by omega)]
      simp [hs]
    rw [e]; rfl
  · rw [hc (nm.size + (Lib.itoa n).length + 1) (by omega)]
    have e : (hd nm n)[nm.size + (Lib.itoa n).length + 1]'(by omega) = 0 := by
      unfold hd
      rw [List.getElem_append_right (by omega)]
      have : nm.size + (Lib.itoa n).length + 1 - nm.data.toList.length = (Lib.itoa n).length + 1 := by omega
      simp only [this, List.getElem_cons_succ]
      rw [List.getElem_append_right (by omega)]
      simp
    rw [e]; rfl
  · refine run_convert_bytes_back (P := Tryf.prog) w' 23 9 5 ⟨g, nm.size + 1, none⟩ c (Lib.itoa n) Tryf.underlying23 Tryf.underlying5 Tryf.underlying9 (fun j hj => ?_)
    have e : (hd nm n)[nm.size + 1 + j]'(by omega) = (Lib.itoa n)[j] := by
      unfold hd
      rw [List.getElem_append_right (by omega)]
      have : nm.size + 1 + j - nm.data.toList.length = j + 1 := by omega
      simp only [this, List.getElem_cons_succ]
      rw [List.getElem_append_left hj]
    have := hc (nm.size + 1 + j) (by omega)
    rw [e] at this
    simpa [Addr.add_lit] using this
end Go.Proofs.Qxb6608656aFmt.Dec
