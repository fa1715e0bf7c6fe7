/-
  SEAT b6604775aD. errors.As at the target **FormatError, by contract: Go's own text of errors.As and errors.as is walked; after the kit's worked example ToyasAs, turned to this dump's numbers (30: *FormatError, 40: **FormatError, 37: error, 70: reflectlite's rtype, 51: reflectlite's Value, 4 package-level variables).
-/
import Derived.Test.Qxb6604775aDoorProg
import Derived.WalkKit
import Derived.LaidEql
import Derived.Stop.Asserts
import Derived.RowKitTokens
namespace Go.Proofs.Qxb6604775aDoor
open Go.RowKit Go.Extern.Stop Go.Stop Go.Extern

/-- errors.As(nil, target). -/
theorem as_nil (t : Value) (w : World) :
    Calls Tryd.prog 13 #[.nilIface, t] w fun e w' => e = .returned (.bool false) ∧ w' = w := by
  go_enter Tryd.func13, Tryd.ntmps13
  go_wp2
  go_ret
  exact ⟨rfl, rfl⟩

/-! ### Closed facts on the model's entries for internal/reflectlite at this program's types -/
theorem as_valueOfPP (t : Addr) (w : World) : (ReflectliteValue.unpack (.iface 40 (.pointer (some t)))).run Tryd.prog w
    = .ok (.agg #[.pointer (some ⟨4, 40, none⟩), .pointer (some ⟨w.heap.size, 0, none⟩), .int .u64 150]) (w.alloc (.cells #[.pointer (some t)] 40)) := by kernel_rfl
theorem as_typePP (a : Addr) (w : World) : (ReflectliteValue.methodAny (ReflectliteValue.valueError "reflectlite.Value.Type" 0) (fun t _ _ _ => ReflectliteType.toType t) #[.agg #[.pointer (some ⟨4, 40, none⟩), .pointer (some a), .int .u64 150]]).run Tryd.prog w
    = .ok (.iface 70 (.agg #[.pointer (some ⟨4, 40, none⟩)])) w := by kernel_rfl
theorem as_methodKind (h : Value) (w : World) : (Go.method 214 70 (.agg #[h]) "Kind").run Tryd.prog w = .ok (46, h) w := by kernel_rfl
theorem as_kindPP (w : World) : ((ReflectliteType.abiMethod fun t => (fun a : Nat => Value.int IntKind.u8 (a : Int)) <$> Rtype.kind t) #[.pointer (some ⟨4, 40, none⟩)]).run Tryd.prog w = .ok (.int .u8 22) w := by kernel_rfl
theorem as_kindP (w : World) : ((ReflectliteType.abiMethod fun t => (fun a : Nat => Value.int IntKind.u8 (a : Int)) <$> Rtype.kind t) #[.pointer (some ⟨4, 30, none⟩)]).run Tryd.prog w = .ok (.int .u8 22) w := by kernel_rfl

/-! ### THE ENTRIES THAT READ OR WRITE MEMORY: laws with a premise on the cell (after Derived/Lib/ReflectliteSlice.lean's manner: each unfolding a lemma of its own, by rfl) -/
theorem rlm (z : Sem Value) (f : TypeId → Addr → Nat → Nat → Sem Value) (v : Value) :
    ReflectliteValue.method z f #[v] = (do match ← ReflectliteValue.parts v with | none => z | some (t, a, fl) => f t a fl (fl % 32)) := rfl
theorem as_partsPP (a : Addr) (w : World) : (ReflectliteValue.parts (.agg #[.pointer (some ⟨4, 40, none⟩), .pointer (some a), .int .u64 150])).run Tryd.prog w = .ok (some (40, a, 150)) w := by kernel_rfl
/-- (Value).IsNil at the Value of a **FormatError that is not nil. -/
theorem as_isNilPP (a p : Addr) (W : World) (ha : W.cell? a = some (.pointer (some p))) :
    (ReflectliteValue.method (ReflectliteValue.valueError "reflectlite.Value.IsNil" 0) ReflectliteValue.isNil #[.agg #[.pointer (some ⟨4, 40, none⟩), .pointer (some a), .int .u64 150]]).run Tryd.prog W = .ok (.bool false) W := by
  rw [rlm]
  simp only [Sem.run_bind, as_partsPP, Result.andThen]
  simp [ReflectliteValue.isNil, loadVar, isAgg, underlying, Tryd.underlying40, ha, Result.andThen]

theorem as_methodElem (h : Value) (w : World) : (Go.method 214 70 (.agg #[h]) "Elem").run Tryd.prog w = .ok (56, .agg #[h]) w := by kernel_rfl
theorem as_methodImplements (h : Value) (w : World) : (Go.method 214 70 (.agg #[h]) "Implements").run Tryd.prog w = .ok (57, .agg #[h]) w := by kernel_rfl
theorem as_methodAssignableTo (h : Value) (w : World) : (Go.method 214 70 (.agg #[h]) "AssignableTo").run Tryd.prog w = .ok (54, .agg #[h]) w := by kernel_rfl
theorem as_elemPP (w : World) : (ReflectliteType.method ReflectliteType.elem #[.agg #[.pointer (some ⟨4, 40, none⟩)]]).run Tryd.prog w = .ok (.iface 70 (.agg #[.pointer (some ⟨4, 30, none⟩)])) w := by kernel_rfl
theorem as_implementsP (w : World) : (ReflectliteType.relation "Implements" ReflectliteType.implements_ #[.agg #[.pointer (some ⟨4, 30, none⟩)], .iface 70 (.agg #[.pointer (some ⟨4, 37, none⟩)])]).run Tryd.prog w = .ok (.bool true) w := by kernel_rfl
theorem as_typeOfP (v : Value) (w : World) : (ReflectliteType.typeOf #[.iface 30 v]).run Tryd.prog w = .ok (.iface 70 (.agg #[.pointer (some ⟨4, 30, none⟩)])) w := by kernel_rfl
theorem as_assignableP (w : World) : (ReflectliteType.relation "AssignableTo" ReflectliteType.assignableTo #[.agg #[.pointer (some ⟨4, 30, none⟩)], .iface 70 (.agg #[.pointer (some ⟨4, 30, none⟩)])]).run Tryd.prog w = .ok (.bool true) w := by kernel_rfl
theorem as_valueOfP (e : Addr) (w : World) : (ReflectliteValue.unpack (.iface 30 (.pointer (some e)))).run Tryd.prog w
    = .ok (.agg #[.pointer (some ⟨4, 30, none⟩), .pointer (some ⟨w.heap.size, 0, none⟩), .int .u64 150]) (w.alloc (.cells #[.pointer (some e)] 30)) := by kernel_rfl

theorem as_elemOfPP (w : World) : (Rtype.elem? 40).run Tryd.prog w = .ok (some 30) w := by kernel_rfl
theorem as_mkP (p : Addr) (w : World) : (ReflectliteValue.mk 30 p ReflectliteValue.flagAddr).run Tryd.prog w = .ok (.agg #[.pointer (some ⟨4, 30, none⟩), .pointer (some p), .int .u64 406]) w := by kernel_rfl
/-- (Value).Elem at the Value of a **FormatError that is not nil: the Value of the *FormatError variable that it points to, addressable. -/
theorem as_elemVPP (a p : Addr) (W : World) (ha : W.cell? a = some (.pointer (some p))) :
    (ReflectliteValue.method (ReflectliteValue.valueError "reflectlite.Value.Elem" 0) ReflectliteValue.elem #[.agg #[.pointer (some ⟨4, 40, none⟩), .pointer (some a), .int .u64 150]]).run Tryd.prog W
      = .ok (.agg #[.pointer (some ⟨4, 30, none⟩), .pointer (some p), .int .u64 406]) W := by
  rw [rlm]
  simp only [Sem.run_bind, as_partsPP, Result.andThen]
  simp [ReflectliteValue.elem, loadVar, isAgg, underlying, Tryd.underlying40, ha, Result.andThen, as_elemOfPP, as_mkP]
theorem as_partsPa (a : Addr) (w : World) : (ReflectliteValue.parts (.agg #[.pointer (some ⟨4, 30, none⟩), .pointer (some a), .int .u64 406])).run Tryd.prog w = .ok (some (30, a, 406)) w := by kernel_rfl
theorem as_partsP (a : Addr) (w : World) : (ReflectliteValue.parts (.agg #[.pointer (some ⟨4, 30, none⟩), .pointer (some a), .int .u64 150])).run Tryd.prog w = .ok (some (30, a, 150)) w := by kernel_rfl
theorem as_directP (w : World) : (Rtype.directlyAssignable 30 30).run Tryd.prog w = .ok true w := by kernel_rfl
theorem as_sizeP (w : World) : (sizeOf 30).run Tryd.prog w = .ok 1 w := by kernel_rfl
/-- (Value).Set: the *FormatError variable at 'ta' gets what the Value's own variable 'b' holds. -/
theorem as_setP (ta b e : Addr) (old : Value) (W : World) (hb : W.cell? b = some (.pointer (some e))) (ht : W.cell? ta = some old) (hf : W.frozen? ta = false) :
    (ReflectliteValue.set #[.agg #[.pointer (some ⟨4, 30, none⟩), .pointer (some ta), .int .u64 406], .agg #[.pointer (some ⟨4, 30, none⟩), .pointer (some b), .int .u64 150]]).run Tryd.prog W
      = .ok (.tuple #[]) (W.setCell ta (.pointer (some e))) := by
  change Sem.run Tryd.prog (ReflectliteValue.parts _ >>= _) W = _
  simp only [Array.getLit, List.getElem_toArray, List.getElem_cons_zero, List.getElem_cons_succ]
  simp only [Sem.run_bind, as_partsPa, as_partsP, Result.andThen]
  simp [ReflectliteValue.flagAddr, loadVar, isAgg, underlying, Tryd.underlying30, hb, Result.andThen, as_directP, storeVar, Value.cells, storeCells, Addr.add]
  rw [run_store Tryd.prog W ta _ _ (by rfl)]
  simp [ht, hf]

set_option maxHeartbeats 4000000 in
theorem as_hit (e t : Addr) (old : Value) (w : World) (hg : w.cell? ⟨0, 0, none⟩ = some (.iface 70 (.agg #[.pointer (some ⟨4, 37, none⟩)]))) (ht0 : w.cell? t = some old) (hf0 : w.frozen? t = false) :
    Calls Tryd.prog 13 #[.iface 30 (.pointer (some e)), .iface 40 (.pointer (some t))] w fun ev w' => ev = .returned (.bool true) ∧ w' = ((((w.alloc (.cells #[.pointer (some t)] 40)).alloc (.cells #[.pointer (some ⟨4, 40, none⟩), .pointer (some ⟨w.heap.size, 0, none⟩), .int .u64 150] 51)).alloc (.cells #[.pointer (some ⟨4, 40, none⟩), .pointer (some ⟨w.heap.size, 0, none⟩), .int .u64 150] 51)).alloc (.cells #[.pointer (some e)] 30)).setCell t (.pointer (some e)) := by
  have h6 := @run_callFunc_extern Tryd.prog 18 _ (fun args => ReflectliteValue.unpack (args.getD 0 (.tuple #[]))) Tryd.func18 (by kernel_rfl) (by kernel_rfl) (by kernel_rfl) (by kernel_rfl)
  have h7 := @run_callFunc_extern Tryd.prog 19 _ (ReflectliteValue.methodAny (ReflectliteValue.valueError "reflectlite.Value.Type" 0) (fun t _ _ _ => ReflectliteType.toType t)) Tryd.func19 (by kernel_rfl) (by kernel_rfl) (by kernel_rfl) (by kernel_rfl)
  have h8 := @run_callFunc_extern Tryd.prog 20 _ (ReflectliteValue.method (ReflectliteValue.valueError "reflectlite.Value.IsNil" 0) ReflectliteValue.isNil) Tryd.func20 (by kernel_rfl) (by kernel_rfl) (by kernel_rfl) (by kernel_rfl)
  have h27 := @run_callFunc_extern Tryd.prog 46 _ (ReflectliteType.abiMethod fun t => do pure (.int .u8 (← Rtype.kind t))) Tryd.func46 (by kernel_rfl) (by kernel_rfl) (by kernel_rfl) (by kernel_rfl)
  have h37 := @run_callFunc_extern Tryd.prog 56 _ (ReflectliteType.method ReflectliteType.elem) Tryd.func56 (by kernel_rfl) (by kernel_rfl) (by kernel_rfl) (by kernel_rfl)
  have h38 := @run_callFunc_extern Tryd.prog 57 _ (ReflectliteType.relation "Implements" ReflectliteType.implements_) Tryd.func57 (by kernel_rfl) (by kernel_rfl) (by kernel_rfl) (by kernel_rfl)
  have h10 := @run_callFunc_extern Tryd.prog 27 _ ReflectliteType.typeOf Tryd.func27 (by kernel_rfl) (by kernel_rfl) (by kernel_rfl) (by kernel_rfl)
  have h35 := @run_callFunc_extern Tryd.prog 54 _ (ReflectliteType.relation "AssignableTo" ReflectliteType.assignableTo) Tryd.func54 (by kernel_rfl) (by kernel_rfl) (by kernel_rfl) (by kernel_rfl)
  have h11 := @run_callFunc_extern Tryd.prog 28 _ (ReflectliteValue.method (ReflectliteValue.valueError "reflectlite.Value.Elem" 0) ReflectliteValue.elem) Tryd.func28 (by kernel_rfl) (by kernel_rfl) (by kernel_rfl) (by kernel_rfl)
  have h12 := @run_callFunc_extern Tryd.prog 29 _ ReflectliteValue.set Tryd.func29 (by kernel_rfl) (by kernel_rfl) (by kernel_rfl) (by kernel_rfl)
  have tO := as_typeOfP
  have mA := as_methodAssignableTo
  have a25 := as_assignableP
  have v25 := as_valueOfP
  have f6 := as_valueOfPP
  have f7 := as_typePP
  have mK := as_methodKind
  have mE := as_methodElem
  have mI := as_methodImplements
  have k27 := as_kindPP
  have k25 := as_kindP
  have e27 := as_elemPP
  have i25 := as_implementsP
  have n8 := as_isNilPP ⟨w.heap.size, 0, none⟩ t ((w.alloc (.cells #[.pointer (some t)] 40)).alloc (.cells #[.pointer (some ⟨4, 40, none⟩), .pointer (some ⟨w.heap.size, 0, none⟩), .int .u64 150] 51)) (by simp)
  have hlt : 0 < w.heap.size := by
    rcases Nat.eq_zero_or_pos w.heap.size with h0 | h
    · simp [World.cell?, h0] at hg
    · exact h
  have hg2 : ((w.alloc (.cells #[.pointer (some t)] 40)).alloc (.cells #[.pointer (some ⟨4, 40, none⟩), .pointer (some ⟨w.heap.size, 0, none⟩), .int .u64 150] 51)).cell? ⟨0, 0, none⟩ = some (.iface 70 (.agg #[.pointer (some ⟨4, 37, none⟩)])) := by
    rw [World.cell?_alloc_lt _ _ ⟨0, 0, none⟩ (by simp), World.cell?_alloc_lt _ _ ⟨0, 0, none⟩ hlt]; exact hg
  have htl : t.block < w.heap.size := by
    rcases Nat.lt_or_ge t.block w.heap.size with h | h
    · exact h
    · simp [World.cell?, Array.getElem?_eq_none h] at ht0
  have el := as_elemVPP ⟨w.heap.size, 0, none⟩ t (((w.alloc (.cells #[.pointer (some t)] 40)).alloc (.cells #[.pointer (some ⟨4, 40, none⟩), .pointer (some ⟨w.heap.size, 0, none⟩), .int .u64 150] 51)).alloc (.cells #[.pointer (some ⟨4, 40, none⟩), .pointer (some ⟨w.heap.size, 0, none⟩), .int .u64 150] 51)) (by rw [World.cell?_alloc_lt _ _ ⟨w.heap.size, 0, none⟩ (by simp; omega)]; simp)
  have st := as_setP t ⟨w.heap.size + 1 + 1 + 1, 0, none⟩ e old ((((w.alloc (.cells #[.pointer (some t)] 40)).alloc (.cells #[.pointer (some ⟨4, 40, none⟩), .pointer (some ⟨w.heap.size, 0, none⟩), .int .u64 150] 51)).alloc (.cells #[.pointer (some ⟨4, 40, none⟩), .pointer (some ⟨w.heap.size, 0, none⟩), .int .u64 150] 51)).alloc (.cells #[.pointer (some e)] 30))
    (by rw [World.cell?_alloc_at _ _ _ _ (by simp)]; rfl)
    (by rw [World.cell?_alloc_lt _ _ t (by simp; omega), World.cell?_alloc_lt _ _ t (by simp; omega), World.cell?_alloc_lt _ _ t (by simp; omega), World.cell?_alloc_lt _ _ t htl]; exact ht0)
    (by rw [World.frozen?_alloc_old _ _ t (by simp; omega), World.frozen?_alloc_old _ _ t (by simp; omega), World.frozen?_alloc_old _ _ t (by simp; omega), World.frozen?_alloc_old _ _ t (Nat.ne_of_lt htl)]; exact hf0)
  go_enter Tryd.func13, Tryd.ntmps13
  go_wp2
  refine wp_loop_rounds 1 ?_
  rw [rounds_succ]
  go_wp2
  go_ret
  exact ⟨rfl, rfl⟩
end Go.Proofs.Qxb6604775aDoor
