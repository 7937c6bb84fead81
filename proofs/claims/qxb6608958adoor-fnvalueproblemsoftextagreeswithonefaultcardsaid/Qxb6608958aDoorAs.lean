import Derived.Test.Qxb6608958aDoorRows
import Derived.WalkKit
import Derived.LaidEql
import Derived.Stop.Asserts
import Derived.RowKitTokens
import Derived.RowKit3
import Derived.StillTactics
namespace Go.Proofs.Qxb6608958aDoor.Fl
open Go.RowKit Go.Extern.Stop Go.Stop Go.Extern
set_option linter.unusedSimpArgs false
set_option linter.unusedVariables false
/-! errors.As at the target type pointer to pointer to memberFaultsError: after the guide's worked example toyas, turned to this program's numbers: 30 the pointer to the fault · 35 the pointer to that · 28 error · 53 the handle's type -/
theorem r_valueOf35 (t : Addr) (w : World) : (ReflectliteValue.unpack (.iface 35 (.pointer (some t)))).run Tryd.prog w
    = .ok (.agg #[.pointer (some ⟨2, 35, none⟩), .pointer (some ⟨w.heap.size, 0, none⟩), .int .u64 150]) (w.alloc (.cells #[.pointer (some t)] 35)) := by kernel_rfl
theorem r_type35 (a : Addr) (w : World) : (ReflectliteValue.methodAny (ReflectliteValue.valueError "reflectlite.Value.Type" 0) (fun t _ _ _ => ReflectliteType.toType t) #[.agg #[.pointer (some ⟨2, 35, none⟩), .pointer (some a), .int .u64 150]]).run Tryd.prog w
    = .ok (.iface 53 (.agg #[.pointer (some ⟨2, 35, none⟩)])) w := by kernel_rfl
theorem r_methodKind (h : Value) (w : World) : (Go.method 205 53 (.agg #[h]) "Kind").run Tryd.prog w = .ok (31, h) w := by kernel_rfl
theorem r_kind35 (w : World) : ((ReflectliteType.abiMethod fun t => Functor.map (fun a : Nat => Value.int IntKind.u8 (a : Int)) (Rtype.kind t)) #[.pointer (some ⟨2, 35, none⟩)]).run Tryd.prog w = .ok (.int .u8 22) w := by kernel_rfl
theorem r_kind30 (w : World) : ((ReflectliteType.abiMethod fun t => Functor.map (fun a : Nat => Value.int IntKind.u8 (a : Int)) (Rtype.kind t)) #[.pointer (some ⟨2, 30, none⟩)]).run Tryd.prog w = .ok (.int .u8 22) w := by kernel_rfl

/-! ### THE ENTRIES THAT READ OR WRITE MEMORY: laws with a premise on the cell (after Derived/Lib/ReflectliteSlice.lean's manner: each unfolding a lemma of its own, by rfl) -/
theorem rlm (z : Sem Value) (f : TypeId → Addr → Nat → Nat → Sem Value) (v : Value) :
    ReflectliteValue.method z f #[v] = (do match ← ReflectliteValue.parts v with | none => z | some (t, a, fl) => f t a fl (fl % 32)) := rfl
theorem r_parts35 (a : Addr) (w : World) : (ReflectliteValue.parts (.agg #[.pointer (some ⟨2, 35, none⟩), .pointer (some a), .int .u64 150])).run Tryd.prog w = .ok (some (35, a, 150)) w := by kernel_rfl
/-- (Value).IsNil at the Value of a **p.E that is not nil. -/
theorem r_isNil35 (a p : Addr) (W : World) (ha : W.cell? a = some (.pointer (some p))) :
    (ReflectliteValue.method (ReflectliteValue.valueError "reflectlite.Value.IsNil" 0) ReflectliteValue.isNil #[.agg #[.pointer (some ⟨2, 35, none⟩), .pointer (some a), .int .u64 150]]).run Tryd.prog W = .ok (.bool false) W := by
  rw [rlm]
  simp only [Sem.run_bind, r_parts35, Result.andThen]
  simp [ReflectliteValue.isNil, loadVar, isAgg, underlying, Tryd.underlying35, ha, Result.andThen]

theorem r_methodElem (h : Value) (w : World) : (Go.method 205 53 (.agg #[h]) "Elem").run Tryd.prog w = .ok (50, .agg #[h]) w := by kernel_rfl
theorem r_methodImplements (h : Value) (w : World) : (Go.method 205 53 (.agg #[h]) "Implements").run Tryd.prog w = .ok (51, .agg #[h]) w := by kernel_rfl
theorem r_methodAssignableTo (h : Value) (w : World) : (Go.method 205 53 (.agg #[h]) "AssignableTo").run Tryd.prog w = .ok (48, .agg #[h]) w := by kernel_rfl
theorem r_elem35 (w : World) : (ReflectliteType.method ReflectliteType.elem #[.agg #[.pointer (some ⟨2, 35, none⟩)]]).run Tryd.prog w = .ok (.iface 53 (.agg #[.pointer (some ⟨2, 30, none⟩)])) w := by kernel_rfl
theorem r_implements30 (w : World) : (ReflectliteType.relation "Implements" ReflectliteType.implements_ #[.agg #[.pointer (some ⟨2, 30, none⟩)], .iface 53 (.agg #[.pointer (some ⟨2, 28, none⟩)])]).run Tryd.prog w = .ok (.bool true) w := by kernel_rfl
theorem r_typeOf30 (v : Value) (w : World) : (ReflectliteType.typeOf #[.iface 30 v]).run Tryd.prog w = .ok (.iface 53 (.agg #[.pointer (some ⟨2, 30, none⟩)])) w := by kernel_rfl
theorem r_assignable30 (w : World) : (ReflectliteType.relation "AssignableTo" ReflectliteType.assignableTo #[.agg #[.pointer (some ⟨2, 30, none⟩)], .iface 53 (.agg #[.pointer (some ⟨2, 30, none⟩)])]).run Tryd.prog w = .ok (.bool true) w := by kernel_rfl
theorem r_valueOf30 (e : Addr) (w : World) : (ReflectliteValue.unpack (.iface 30 (.pointer (some e)))).run Tryd.prog w
    = .ok (.agg #[.pointer (some ⟨2, 30, none⟩), .pointer (some ⟨w.heap.size, 0, none⟩), .int .u64 150]) (w.alloc (.cells #[.pointer (some e)] 30)) := by kernel_rfl

theorem r_elemOf35 (w : World) : (Rtype.elem? 35).run Tryd.prog w = .ok (some 30) w := by kernel_rfl
theorem r_mk30 (p : Addr) (w : World) : (ReflectliteValue.mk 30 p ReflectliteValue.flagAddr).run Tryd.prog w = .ok (.agg #[.pointer (some ⟨2, 30, none⟩), .pointer (some p), .int .u64 406]) w := by kernel_rfl
/-- (Value).Elem at the Value of a **p.E that is not nil: the Value of the *p.E variable that it points to, addressable. -/
theorem r_elemV35 (a p : Addr) (W : World) (ha : W.cell? a = some (.pointer (some p))) :
    (ReflectliteValue.method (ReflectliteValue.valueError "reflectlite.Value.Elem" 0) ReflectliteValue.elem #[.agg #[.pointer (some ⟨2, 35, none⟩), .pointer (some a), .int .u64 150]]).run Tryd.prog W
      = .ok (.agg #[.pointer (some ⟨2, 30, none⟩), .pointer (some p), .int .u64 406]) W := by
  rw [rlm]
  simp only [Sem.run_bind, r_parts35, Result.andThen]
  simp [ReflectliteValue.elem, loadVar, isAgg, underlying, Tryd.underlying35, ha, Result.andThen, r_elemOf35, r_mk30]
theorem rls (v x : Value) : ∃ K : Option (TypeId × Addr × Nat) → Option (TypeId × Addr × Nat) → Sem Value,
    ReflectliteValue.set #[v, x] = (ReflectliteValue.parts v >>= fun a => ReflectliteValue.parts x >>= fun b => K a b) ∧
    ∃ J : Addr → Value → Sem Value, ∀ ta b, K (some (30, ta, 406)) (some (30, b, 150)) = (loadVar 30 b >>= fun val => Rtype.directlyAssignable 30 30 >>= fun c => if c then (storeVar 30 ta val >>= fun _ => pure (.tuple #[])) else J ta val) :=
  ⟨_, rfl, _, fun _ _ => rfl⟩
theorem r_parts30a (a : Addr) (w : World) : (ReflectliteValue.parts (.agg #[.pointer (some ⟨2, 30, none⟩), .pointer (some a), .int .u64 406])).run Tryd.prog w = .ok (some (30, a, 406)) w := by kernel_rfl
theorem r_parts30 (a : Addr) (w : World) : (ReflectliteValue.parts (.agg #[.pointer (some ⟨2, 30, none⟩), .pointer (some a), .int .u64 150])).run Tryd.prog w = .ok (some (30, a, 150)) w := by kernel_rfl
theorem r_direct30 (w : World) : (Rtype.directlyAssignable 30 30).run Tryd.prog w = .ok true w := by kernel_rfl
theorem r_size30 (w : World) : (sizeOf 30).run Tryd.prog w = .ok 1 w := by kernel_rfl
/-- (Value).Set: the *p.E variable at 'ta' gets what the Value's own variable 'b' holds. -/
theorem r_set30 (ta b e : Addr) (old : Value) (W : World) (hb : W.cell? b = some (.pointer (some e))) (ht : W.cell? ta = some old) (hf : W.frozen? ta = false) :
    (ReflectliteValue.set #[.agg #[.pointer (some ⟨2, 30, none⟩), .pointer (some ta), .int .u64 406], .agg #[.pointer (some ⟨2, 30, none⟩), .pointer (some b), .int .u64 150]]).run Tryd.prog W
      = .ok (.tuple #[]) (W.setCell ta (.pointer (some e))) := by
  obtain ⟨K, hK, J, hJ⟩ := rls (.agg #[.pointer (some ⟨2, 30, none⟩), .pointer (some ta), .int .u64 406]) (.agg #[.pointer (some ⟨2, 30, none⟩), .pointer (some b), .int .u64 150])
  rw [hK]
  simp only [Sem.run_bind, r_parts30a, r_parts30, Result.andThen, hJ]
  simp [ReflectliteValue.flagAddr, loadVar, isAgg, underlying, Tryd.underlying30, hb, Result.andThen, r_direct30, storeVar, Value.cells, storeCells, Addr.add]
  rw [run_store Tryd.prog W ta _ _ (by rfl)]
  simp [ht, hf]

theorem r_typeOf36 (v : Value) (w : World) : (ReflectliteType.typeOf #[.iface 36 v]).run Tryd.prog w = .ok (.iface 53 (.agg #[.pointer (some ⟨2, 36, none⟩)])) w := by kernel_rfl
theorem r_assignable36 (w : World) : (ReflectliteType.relation "AssignableTo" ReflectliteType.assignableTo #[.agg #[.pointer (some ⟨2, 36, none⟩)], .iface 53 (.agg #[.pointer (some ⟨2, 30, none⟩)])]).run Tryd.prog w = .ok (.bool false) w := by kernel_rfl
theorem r_as58 (v : Value) (w : World) : (Instr.typeAssert (.iface 36 v) 28 58 true).run Tryd.prog w = .ok (.tuple #[.nilIface, .bool false]) w := run_typeAssert_lacksB Tryd.underlying58 (by kernel_rfl) (by kernel_rfl) v 28 w
theorem r_as61 (v : Value) (w : World) : (Instr.typeAssert (.iface 36 v) 28 61 true).run Tryd.prog w = .ok (.tuple #[.nilIface, .bool false]) w := run_typeAssert_lacksB Tryd.underlying61 (by kernel_rfl) (by kernel_rfl) v 28 w
theorem r_as63 (v : Value) (w : World) : (Instr.typeAssert (.iface 36 v) 28 63 true).run Tryd.prog w = .ok (.tuple #[.nilIface, .bool false]) w := run_typeAssert_lacksB Tryd.underlying63 (by kernel_rfl) (by kernel_rfl) v 28 w
set_option maxHeartbeats 4000000 in
theorem as_hit (e t : Addr) (old : Value) (w : World) (hg : w.cell? ⟨0, 0, none⟩ = some (.iface 53 (.agg #[.pointer (some ⟨2, 28, none⟩)]))) (ht0 : w.cell? t = some old) (hf0 : w.frozen? t = false) :
    Calls Tryd.prog 9 #[.iface 30 (.pointer (some e)), .iface 35 (.pointer (some t))] w fun ev w' => ev = .returned (.bool true) ∧ w' = ((((w.alloc (.cells #[.pointer (some t)] 35)).alloc (.cells #[.pointer (some ⟨2, 35, none⟩), .pointer (some ⟨w.heap.size, 0, none⟩), .int .u64 150] 42)).alloc (.cells #[.pointer (some ⟨2, 35, none⟩), .pointer (some ⟨w.heap.size, 0, none⟩), .int .u64 150] 42)).alloc (.cells #[.pointer (some e)] 30)).setCell t (.pointer (some e)) := by
  have h6 := @run_callFunc_extern Tryd.prog 10 _ (fun args => ReflectliteValue.unpack (args.getD 0 (.tuple #[]))) Tryd.func10 (by kernel_rfl) (by kernel_rfl) (by kernel_rfl) (by kernel_rfl)
  have h7 := @run_callFunc_extern Tryd.prog 11 _ (ReflectliteValue.methodAny (ReflectliteValue.valueError "reflectlite.Value.Type" 0) (fun t _ _ _ => ReflectliteType.toType t)) Tryd.func11 (by kernel_rfl) (by kernel_rfl) (by kernel_rfl) (by kernel_rfl)
  have h8 := @run_callFunc_extern Tryd.prog 12 _ (ReflectliteValue.method (ReflectliteValue.valueError "reflectlite.Value.IsNil" 0) ReflectliteValue.isNil) Tryd.func12 (by kernel_rfl) (by kernel_rfl) (by kernel_rfl) (by kernel_rfl)
  have h27 := @run_callFunc_extern Tryd.prog 31 _ (ReflectliteType.abiMethod fun t => do pure (.int .u8 (← Rtype.kind t))) Tryd.func31 (by kernel_rfl) (by kernel_rfl) (by kernel_rfl) (by kernel_rfl)
  have h37 := @run_callFunc_extern Tryd.prog 50 _ (ReflectliteType.method ReflectliteType.elem) Tryd.func50 (by kernel_rfl) (by kernel_rfl) (by kernel_rfl) (by kernel_rfl)
  have h38 := @run_callFunc_extern Tryd.prog 51 _ (ReflectliteType.relation "Implements" ReflectliteType.implements_) Tryd.func51 (by kernel_rfl) (by kernel_rfl) (by kernel_rfl) (by kernel_rfl)
  have h10 := @run_callFunc_extern Tryd.prog 14 _ ReflectliteType.typeOf Tryd.func14 (by kernel_rfl) (by kernel_rfl) (by kernel_rfl) (by kernel_rfl)
  have h35 := @run_callFunc_extern Tryd.prog 48 _ (ReflectliteType.relation "AssignableTo" ReflectliteType.assignableTo) Tryd.func48 (by kernel_rfl) (by kernel_rfl) (by kernel_rfl) (by kernel_rfl)
  have h11 := @run_callFunc_extern Tryd.prog 15 _ (ReflectliteValue.method (ReflectliteValue.valueError "reflectlite.Value.Elem" 0) ReflectliteValue.elem) Tryd.func15 (by kernel_rfl) (by kernel_rfl) (by kernel_rfl) (by kernel_rfl)
  have h12 := @run_callFunc_extern Tryd.prog 16 _ ReflectliteValue.set Tryd.func16 (by kernel_rfl) (by kernel_rfl) (by kernel_rfl) (by kernel_rfl)
  have tO := r_typeOf30
  have mA := r_methodAssignableTo
  have a25 := r_assignable30
  have v25 := r_valueOf30
  have f6 := r_valueOf35
  have f7 := r_type35
  have mK := r_methodKind
  have mE := r_methodElem
  have mI := r_methodImplements
  have k27 := r_kind35
  have k25 := r_kind30
  have e27 := r_elem35
  have i25 := r_implements30
  have n8 := r_isNil35 ⟨w.heap.size, 0, none⟩ t ((w.alloc (.cells #[.pointer (some t)] 35)).alloc (.cells #[.pointer (some ⟨2, 35, none⟩), .pointer (some ⟨w.heap.size, 0, none⟩), .int .u64 150] 42)) (by simp)
  have hlt : 0 < w.heap.size := by
    rcases Nat.eq_zero_or_pos w.heap.size with h0 | h
    · simp [World.cell?, h0] at hg
    · exact h
  have hg2 : ((w.alloc (.cells #[.pointer (some t)] 35)).alloc (.cells #[.pointer (some ⟨2, 35, none⟩), .pointer (some ⟨w.heap.size, 0, none⟩), .int .u64 150] 42)).cell? ⟨0, 0, none⟩ = some (.iface 53 (.agg #[.pointer (some ⟨2, 28, none⟩)])) := by
    rw [World.cell?_alloc_lt _ _ ⟨0, 0, none⟩ (by simp), World.cell?_alloc_lt _ _ ⟨0, 0, none⟩ hlt]; exact hg
  have htl : t.block < w.heap.size := by
    rcases Nat.lt_or_ge t.block w.heap.size with h | h
    · exact h
    · simp [World.cell?, Array.getElem?_eq_none h] at ht0
  have el := r_elemV35 ⟨w.heap.size, 0, none⟩ t (((w.alloc (.cells #[.pointer (some t)] 35)).alloc (.cells #[.pointer (some ⟨2, 35, none⟩), .pointer (some ⟨w.heap.size, 0, none⟩), .int .u64 150] 42)).alloc (.cells #[.pointer (some ⟨2, 35, none⟩), .pointer (some ⟨w.heap.size, 0, none⟩), .int .u64 150] 42)) (by rw [World.cell?_alloc_lt _ _ ⟨w.heap.size, 0, none⟩ (by simp; omega)]; simp)
  have st := r_set30 t ⟨w.heap.size + 1 + 1 + 1, 0, none⟩ e old ((((w.alloc (.cells #[.pointer (some t)] 35)).alloc (.cells #[.pointer (some ⟨2, 35, none⟩), .pointer (some ⟨w.heap.size, 0, none⟩), .int .u64 150] 42)).alloc (.cells #[.pointer (some ⟨2, 35, none⟩), .pointer (some ⟨w.heap.size, 0, none⟩), .int .u64 150] 42)).alloc (.cells #[.pointer (some e)] 30))
    (by rw [World.cell?_alloc_at _ _ _ _ (by simp)]; rfl)
    (by rw [World.cell?_alloc_lt _ _ t (by simp; omega), World.cell?_alloc_lt _ _ t (by simp; omega), World.cell?_alloc_lt _ _ t (by simp; omega), World.cell?_alloc_lt _ _ t htl]; exact ht0)
    (by rw [World.frozen?_alloc_old _ _ t (by simp; omega), World.frozen?_alloc_old _ _ t (by simp; omega), World.frozen?_alloc_old _ _ t (by simp; omega), World.frozen?_alloc_old _ _ t (Nat.ne_of_lt htl)]; exact hf0)
  go_enter Tryd.func9, Tryd.ntmps9
  go_wp2
  refine wp_loop_rounds 1 ?_
  rw [rounds_succ]
  go_wp2
  go_ret
  exact ⟨rfl, rfl⟩
set_option maxHeartbeats 4000000 in
theorem as_miss (e t : Addr) (old : Value) (w : World) (hg : w.cell? ⟨0, 0, none⟩ = some (.iface 53 (.agg #[.pointer (some ⟨2, 28, none⟩)]))) (ht0 : w.cell? t = some old) (hf0 : w.frozen? t = false) :
    Calls Tryd.prog 9 #[.iface 36 (.pointer (some e)), .iface 35 (.pointer (some t))] w fun ev w' => ev = .returned (.bool false) ∧ w' = (((w.alloc (.cells #[.pointer (some t)] 35)).alloc (.cells #[.pointer (some ⟨2, 35, none⟩), .pointer (some ⟨w.heap.size, 0, none⟩), .int .u64 150] 42)).alloc (.cells #[.pointer (some ⟨2, 35, none⟩), .pointer (some ⟨w.heap.size, 0, none⟩), .int .u64 150] 42)) := by
  have h6 := @run_callFunc_extern Tryd.prog 10 _ (fun args => ReflectliteValue.unpack (args.getD 0 (.tuple #[]))) Tryd.func10 (by kernel_rfl) (by kernel_rfl) (by kernel_rfl) (by kernel_rfl)
  have h7 := @run_callFunc_extern Tryd.prog 11 _ (ReflectliteValue.methodAny (ReflectliteValue.valueError "reflectlite.Value.Type" 0) (fun t _ _ _ => ReflectliteType.toType t)) Tryd.func11 (by kernel_rfl) (by kernel_rfl) (by kernel_rfl) (by kernel_rfl)
  have h8 := @run_callFunc_extern Tryd.prog 12 _ (ReflectliteValue.method (ReflectliteValue.valueError "reflectlite.Value.IsNil" 0) ReflectliteValue.isNil) Tryd.func12 (by kernel_rfl) (by kernel_rfl) (by kernel_rfl) (by kernel_rfl)
  have h27 := @run_callFunc_extern Tryd.prog 31 _ (ReflectliteType.abiMethod fun t => do pure (.int .u8 (← Rtype.kind t))) Tryd.func31 (by kernel_rfl) (by kernel_rfl) (by kernel_rfl) (by kernel_rfl)
  have h37 := @run_callFunc_extern Tryd.prog 50 _ (ReflectliteType.method ReflectliteType.elem) Tryd.func50 (by kernel_rfl) (by kernel_rfl) (by kernel_rfl) (by kernel_rfl)
  have h38 := @run_callFunc_extern Tryd.prog 51 _ (ReflectliteType.relation "Implements" ReflectliteType.implements_) Tryd.func51 (by kernel_rfl) (by kernel_rfl) (by kernel_rfl) (by kernel_rfl)
  have h10 := @run_callFunc_extern Tryd.prog 14 _ ReflectliteType.typeOf Tryd.func14 (by kernel_rfl) (by kernel_rfl) (by kernel_rfl) (by kernel_rfl)
  have h35 := @run_callFunc_extern Tryd.prog 48 _ (ReflectliteType.relation "AssignableTo" ReflectliteType.assignableTo) Tryd.func48 (by kernel_rfl) (by kernel_rfl) (by kernel_rfl) (by kernel_rfl)
  have tO := r_typeOf36
  have mA := r_methodAssignableTo
  have a25 := r_assignable36
  have s1 := r_as58
  have s2 := r_as61
  have s3 := r_as63
  have f6 := r_valueOf35
  have f7 := r_type35
  have mK := r_methodKind
  have mE := r_methodElem
  have mI := r_methodImplements
  have k27 := r_kind35
  have k25 := r_kind30
  have e27 := r_elem35
  have i25 := r_implements30
  have n8 := r_isNil35 ⟨w.heap.size, 0, none⟩ t ((w.alloc (.cells #[.pointer (some t)] 35)).alloc (.cells #[.pointer (some ⟨2, 35, none⟩), .pointer (some ⟨w.heap.size, 0, none⟩), .int .u64 150] 42)) (by simp)
  have hlt : 0 < w.heap.size := by
    rcases Nat.eq_zero_or_pos w.heap.size with h0 | h
    · simp [World.cell?, h0] at hg
    · exact h
  have hg2 : ((w.alloc (.cells #[.pointer (some t)] 35)).alloc (.cells #[.pointer (some ⟨2, 35, none⟩), .pointer (some ⟨w.heap.size, 0, none⟩), .int .u64 150] 42)).cell? ⟨0, 0, none⟩ = some (.iface 53 (.agg #[.pointer (some ⟨2, 28, none⟩)])) := by
    rw [World.cell?_alloc_lt _ _ ⟨0, 0, none⟩ (by simp), World.cell?_alloc_lt _ _ ⟨0, 0, none⟩ hlt]; exact hg
  have htl : t.block < w.heap.size := by
    rcases Nat.lt_or_ge t.block w.heap.size with h | h
    · exact h
    · simp [World.cell?, Array.getElem?_eq_none h] at ht0
  go_enter Tryd.func9, Tryd.ntmps9
  go_wp2
  refine wp_loop_rounds 1 ?_
  rw [rounds_succ]
  go_wp2
  go_ret
  exact ⟨rfl, rfl⟩
end Go.Proofs.Qxb6608958aDoor.Fl
