import Derived.Test.Qxb6608656aDoorMod
import Derived.WalkSmall
namespace Go.Proofs.Qxb6608656aDoor.Dec
open Go.RowKit Go.Shelf
set_option linter.unusedSimpArgs false
set_option linter.unusedVariables false

theorem var_keep {n : String} {cs : Array Value} {W W' : World} (hv : W.var? Tryd.prog n = some cs) (hb : Below W.heap.size W W') : W'.var? Tryd.prog n = some cs := by
  unfold World.var? at hv ⊢
  rcases hg : Tryd.prog.globalNamed n with _ | g
  · rw [hg] at hv; simp at hv
  · rw [hg] at hv
    simp only [Option.bind_some] at hv ⊢
    have hlt : g < W.heap.size := by
      rcases Nat.lt_or_ge g W.heap.size with h | h
      · exact h
      · rw [Array.getElem?_eq_none h] at hv; simp at hv
    rw [hb.block g hlt]
    exact hv
theorem app_list (a b : ByteArray) : (a ++ b).data.toList = a.data.toList ++ b.data.toList := by simp [ByteArray.data_append]
theorem app_size (a b : ByteArray) : (a ++ b).size = a.size + b.size := ByteArray.size_append
theorem same_bool {l : List UInt8} {x y : Bool} (hx : x = true ↔ Dec l) (hy : y = true ↔ Model l) : x = y := by
  rw [model_iff] at hy
  cases x <;> cases y <;> simp_all

set_option maxHeartbeats 2000000 in
theorem law_any (a b : ByteArray) (ha : a.size ≤ maxLen) (hb : b.size ≤ maxLen) (tp tq : TypeId) (p q : Value) (w : World) (hv1 : w.var? Tryd.prog "strconv.ErrSyntax" = some #[.iface tp p]) (hv2 : w.var? Tryd.prog "strconv.ErrRange" = some #[.iface tq q]) :
    Calls Tryd.prog 3 #[.string a, .string b] w fun e w' => e = .returned (.bool true) ∧ Below w.heap.size w w' := by
  unfold maxLen at ha hb
  have HV1 : Hid (w.var? Tryd.prog "strconv.ErrSyntax" = some #[.iface tp p]) := hv1
  have HV2 : Hid (w.var? Tryd.prog "strconv.ErrRange" = some #[.iface tq q]) := hv2
  clear hv1 hv2
  go_enter Tryd.func3, Tryd.ntmps3
  go_wp2_with (go_at_call 4; go_in)
  · go_ret
    exact ⟨rfl, Below.refl _ _⟩
  · go_ret
    exact ⟨rfl, Below.refl _ _⟩
  · go_ret
    exact ⟨rfl, Below.refl _ _⟩
  have hsum : a.size + b.size ≤ 1048576 := by omega
  refine (zdecimal_any (a ++ b) (by rw [app_size]; omega) tp tq p q w HV1.out HV2.out).mono ?_
  rintro e w1 ⟨⟨x, rfl, hx⟩, hb1⟩
  have HX : Hid (x = true ↔ Dec (a ++ b).data.toList) := hx
  clear hx
  go_wp2_with fail
  refine (model_any (a ++ b) (by rw [app_size]; omega) w1).mono ?_
  rintro e w2 ⟨⟨y, rfl, hy⟩, n, rfl⟩
  obtain rfl := same_bool HX.out hy
  clear hy
  have hb2 : Below w.heap.size w (w1.drewN n) := below_drewN hb1 n
  rcases x with _ | _
  · go_wp2
    go_ret
    exact ⟨rfl, hb2⟩
  · by_cases hem : a.toList.isEmpty = true
    · go_wp2
      go_ret
      exact ⟨rfl, hb2⟩
    · have hem' : a.toList.isEmpty = false := by simpa using hem
      have hd : Dec a.data.toList := dec_prefix (by rw [← app_list]; exact HX.out.1 rfl) (fun e => hem (by simp [ByteArray.toList_eq, e]))
      have HD : Hid (Dec a.data.toList) := hd
      clear hem hd HX
      go_wp2_with fail
      refine (zdecimal_any a (by omega) tp tq p q _ (var_keep HV1.out hb2) (var_keep HV2.out hb2)).mono ?_
      rintro e w3 ⟨⟨z, rfl, hz⟩, hb3⟩
      obtain rfl : z = true := hz.2 HD.out
      clear hz
      go_wp2
      go_ret
      exact ⟨rfl, hb2.trans (hb3.mono hb2.size)⟩
end Go.Proofs.Qxb6608656aDoor.Dec
