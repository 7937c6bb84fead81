import Derived.Test.Qxb6608656aFmtPos
import Derived.Test.Qxb6608656aFmtNeg
import Derived.Test.Qxb6608656aFmtTie
import Derived.Test.Qxb6608656aFmtCards
import Derived.ProofKit
import Derived.LaidMore
import Derived.OpenShut
import Derived.OpenVars
import Derived.ChangeVars
import Derived.Lib.LaidTab
import Derived.Stop.Joined
import Derived.Stop.JoinedTold
import Derived.Stop.JoinedAt
import Derived.Stop.LaidErr
import Derived.Deep.DeepWitnessRef
import Derived.SevenTiedAt
namespace Go.Proofs.Qxb6608656aFmt.Dec
open Go.ChangeShapes Go.WideShapes Go.ChangeAt Go.RowKit
set_option linter.unusedVariables false

theorem own : ownKnob Tryf.prog.godebug = none := by kernel_rfl
/-- The names that the row lists. -/
def nmAt (i : Nat) : String := match Rows.fnDecimalReadsWrittenSizesRow.laid.drop i with
  | p :: _ => p.1
  | _ => ""
theorem g10 : Tryf.prog.globalNamed nm10 = some 4 := by kernel_rfl
theorem gTN : Tryf.prog.globalNamed (nmAt 5) = some 0 := by kernel_rfl
theorem gER : Tryf.prog.globalNamed "strconv.ErrRange" = some 3 := by kernel_rfl
theorem gES : Tryf.prog.globalNamed "strconv.ErrSyntax" = some 2 := by kernel_rfl
theorem t10 : (Tryf.prog.globals[4]?).map (·.type) = some 110 := by kernel_rfl
theorem tTN : (Tryf.prog.globals[0]?).map (·.type) = some 83 := by kernel_rfl
theorem tER : (Tryf.prog.globals[3]?).map (·.type) = some 33 := by kernel_rfl
theorem tES : (Tryf.prog.globals[2]?).map (·.type) = some 33 := by kernel_rfl
theorem cells9 : Tryf.prog.cellsOf 9 = 1 := by kernel_rfl
theorem cells27 : Tryf.prog.cellsOf 27 = 1 := by kernel_rfl
theorem cells83 : Tryf.prog.cellsOf 83 = 5 := by kernel_rfl
theorem cells110 : Tryf.prog.cellsOf 110 = 20 := by kernel_rfl
/-- The dynamic type's name in a listed sentinel. -/
def nmOf (d : DataW Unit) : String :=
  match d with
  | .iface n _ => n
  | _ => ""
theorem row89 (u : TypeId) (h : Tryf.prog.typeName? 3 u = some (nmOf Rows.laid_strconv_ErrRange)) : u = 89 :=
  typeName_ptr_named (nm := "errors.errorString") (by kernel_rfl) (by kernel_rfl) (by decide) u (h.trans (congrArg some (by kernel_rfl)))

/-- An array of strings that reads as the list holds the list's strings. -/
theorem str_cells {H : Type} {enc : TypeId × Value → H} {P : Program} {w : World} {base : Nat} {sp : Nat → Bool} {held : Bool} {fuel : Nat} {t e : TypeId} {n : Nat} {cs : List Value} {ss : List (List UInt8)} {p : List MemPlace}
    (ht : P.underlying t = some (.array n e)) (he : P.underlying e = some .string) (hce : P.cellsOf e = 1) (hct : P.cellsOf t = n)
    (h : DataW.trod enc P w base sp held fuel t cs = some (.agg (ss.map fun s => .lit (.string s)), p)) (i : Nat) (s : List UInt8) (hs : ss[i]? = some s) : ∃ b : ByteArray, cs[i]? = some (.string b) ∧ b.data.toList = s := by
  cases fuel with
  | zero => simp [DataW.trod] at h
  | succ fuel =>
    simp only [DataW.trod, ht, hce, hct, Nat.mul_one] at h
    split at h
    · rename_i hl
      obtain ⟨xs, hm, hx⟩ := Option.map_eq_some_iff.1 h
      have hxs : xs.map (·.1) = ss.map fun s => (DataW.lit (.string s) : DataW H) := by
        have := congrArg Prod.fst hx
        simpa using this
      have hxl : xs.length = n := by simpa using Lib.mapM_length hm
      have hzl : ss.length = n := by
        have := congrArg List.length hxs
        simp at this
        omega
      have hi : i < n := by
        have := (List.getElem?_eq_some_iff.1 hs).1
        omega
      obtain ⟨b, hb, hf⟩ := Lib.mapM_at hm i i (by simp [hi])
      obtain ⟨z, hc, rfl, _⟩ := DataW.trod_string he hf
      have h1 : cs[i]? = some (.string z) := by
        have := congrArg (·[0]?) hc
        simpa [List.getElem?_take, List.getElem?_drop] using this
      have h2 : (xs.map (·.1))[i]? = some (DataW.lit (.string z.data.toList) : DataW H) := by simp [hb]
      rw [hxs, List.getElem?_map, hs] at h2
      simp only [Option.map_some, Option.some.injEq, DataW.lit.injEq, Lit.string.injEq] at h2
      exact ⟨z, h1, h2.symm⟩
    · cases h

/-- The type's name, as the row lists it. -/
def names : List (List UInt8) := [[], [99, 111, 109, 109, 105, 116], [116, 114, 101, 101], [98, 108, 111, 98], [116, 97, 103]]
/-- What the condition gives the walk. -/
theorem of_laid {W : World} (h : laidMetH Tryf.prog Rows.fnDecimalReadsWrittenSizesRow.laid W) (t : Int) (h1 : 1 ≤ t) (h2 : t ≤ 4) :
    ∃ nm : ByteArray, nm.size ≤ 100 ∧ (∀ c ∈ nm.data.toList, c.toNat ≠ 32) ∧ Env W t nm := by
  rw [MakeChecks.laidMetH_plain _ _ _ (by kernel_rfl)] at h
  have hp : Lib.TabIs Tryf.prog W nm10 .u64 Lib.pow10Tab := Lib.tabIs_of_head (rest := Rows.fnDecimalReadsWrittenSizesRow.laid.drop 3) g10 t10 Tryf.underlying110 Tryf.underlying27 cells27 cells110 h.tail.tail
  have h3 := h.tail.tail.tail
  obtain ⟨a0, s0, hv0, -, -, -⟩ := laid_sentinel h3 gER tER Tryf.underlying33 row89 Tryf.underlying89 Tryf.underlying91 rfl rfl Tryf.underlying9 (by kernel_rfl) cells9
  obtain ⟨a1, s1, hv1, -, -, -⟩ := laid_sentinel h3.tail gES tES Tryf.underlying33 row89 Tryf.underlying89 Tryf.underlying91 rfl rfl Tryf.underlying9 (by kernel_rfl) cells9
  have h5 := h3.tail.tail
  obtain ⟨ps, ⟨g', t', cs, fuel, p, q, hg', ht', hvar, hd, _, _⟩, _⟩ := h5
  obtain rfl := Option.some.inj (gTN.symm.trans hg')
  obtain rfl := Option.some.inj (tTN.symm.trans ht')
  have hcell := fun i => World.var?_cell gTN hvar i
  have key : ∀ s, names[t.toNat]? = some s → s.length ≤ 100 → (∀ c ∈ s, c.toNat ≠ 32) → ∃ nm : ByteArray, nm.size ≤ 100 ∧ (∀ c ∈ nm.data.toList, c.toNat ≠ 32) ∧ Env W t nm := by
    intro s hs hl hc
    obtain ⟨b, hb, hbs⟩ := str_cells (ss := names) Tryf.underlying83 Tryf.underlying9 cells9 cells83 hd t.toNat s hs
    have hz : b.size = b.data.toList.length := by simp
    refine ⟨b, by rw [hz, hbs]; exact hl, by rw [hbs]; exact hc, ⟨_, hv1⟩, ⟨_, hv0⟩, ?_, hp⟩
    rw [hcell]
    simpa using hb
  have ht : t = 1 ∨ t = 2 ∨ t = 3 ∨ t = 4 := by omega
  rcases ht with rfl | rfl | rfl | rfl
  · exact key _ rfl (by decide) (by decide)
  · exact key _ rfl (by decide) (by decide)
  · exact key _ rfl (by decide) (by decide)
  · exact key _ rfl (by decide) (by decide)

theorem law_any (t n : Int) (n0 : -9223372036854775808 ≤ n) (n1 : n ≤ 9223372036854775807) (w : World) (h : laidMetH Tryf.prog Rows.fnDecimalReadsWrittenSizesRow.laid w) :
    Calls Tryf.prog 3 #[.int .i8 t, .int .i64 n] w fun e w' => e = .returned (.bool true) ∧ Below w.heap.size w w' := by
  by_cases ht : 1 ≤ t ∧ t ≤ 4
  · obtain ⟨nm, a1, a2, hE⟩ := of_laid h t ht.1 ht.2
    by_cases hn : 0 ≤ n
    · exact law_pos t n ht.1 ht.2 hn n1 nm a1 a2 w hE
    · exact law_neg t n ht.1 ht.2 (by omega) n0 _ rfl nm a1 a2 w hE
  · exact law_out t n (by omega) w

/-- The door's own heap meets the condition. -/
theorem door_met (os : Os) (args : Array Value) : laidMetH Tryf.prog Rows.fnDecimalReadsWrittenSizesRow.laid ((World.doorLaid Tryf.prog 67 os).forCall (fun _ _ => 0) ⟨#[], args, []⟩).memory :=
  laidMetH_of_parts3 (fuel := 8) (laidMet_of_run' 8 (by kernel_rfl) (by kernel_rfl)) (by kernel_rfl) (by kernel_rfl)
end Go.Proofs.Qxb6608656aFmt.Dec
