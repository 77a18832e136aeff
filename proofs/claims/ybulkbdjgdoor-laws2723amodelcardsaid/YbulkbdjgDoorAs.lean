import Derived.Test.YbulkbdjgDoorSlot
import Derived.WalkKit
import Derived.LaidEql
import Derived.Stop.Asserts
import Derived.RowKitTokens
namespace Go.Proofs.YbulkbdjgDoor
open Go.RowKit Go.Extern.Stop Go.Stop Go.Extern

/-- errors.As(nil, target). -/
theorem as_nil (t : Value) (w : World) :
    Calls Ybad.prog 12 #[.nilIface, t] w fun e w' => e = .returned (.bool false) ∧ w' = w := by
  go_enter Ybad.func12, Ybad.ntmps12
  go_wp2
  go_ret
  exact ⟨rfl, rfl⟩

theorem as_valueOfP (t : Addr) (w : World) : (ReflectliteValue.unpack (.iface 96 (.pointer (some t)))).run Ybad.prog w
    = .ok (.agg #[.pointer (some ⟨3, 96, none⟩), .pointer (some ⟨w.heap.size, 0, none⟩), .int .u64 150]) (w.alloc (.cells #[.pointer (some t)] 96)) := by kernel_rfl
theorem as_typeP (a : Addr) (w : World) : (ReflectliteValue.methodAny (ReflectliteValue.valueError "reflectlite.Value.Type" 0) (fun t _ _ _ => ReflectliteType.toType t) #[.agg #[.pointer (some ⟨3, 96, none⟩), .pointer (some a), .int .u64 150]]).run Ybad.prog w
    = .ok (.iface 122 (.agg #[.pointer (some ⟨3, 96, none⟩)])) w := by kernel_rfl
theorem as_methodKind (h : Value) (w : World) : (Go.method 307 122 (.agg #[h]) "Kind").run Ybad.prog w = .ok (40, h) w := by kernel_rfl
theorem as_kindP (w : World) : ((ReflectliteType.abiMethod fun t => (fun a : Nat => Value.int IntKind.u8 (a : Int)) <$> Rtype.kind t) #[.pointer (some ⟨3, 96, none⟩)]).run Ybad.prog w = .ok (.int .u8 22) w := by kernel_rfl
theorem as_kindT (w : World) : ((ReflectliteType.abiMethod fun t => (fun a : Nat => Value.int IntKind.u8 (a : Int)) <$> Rtype.kind t) #[.pointer (some ⟨3, 94, none⟩)]).run Ybad.prog w = .ok (.int .u8 22) w := by kernel_rfl

theorem as_partsP (a : Addr) (w : World) : (ReflectliteValue.parts (.agg #[.pointer (some ⟨3, 96, none⟩), .pointer (some a), .int .u64 150])).run Ybad.prog w = .ok (some (96, a, 150)) w := by kernel_rfl
/-- (Value).IsNil at the Value of a **decodeError that is not nil. -/
theorem as_isNilP (a p : Addr) (W : World) (ha : W.cell? a = some (.pointer (some p))) :
    (ReflectliteValue.method (ReflectliteValue.valueError "reflectlite.Value.IsNil" 0) ReflectliteValue.isNil #[.agg #[.pointer (some ⟨3, 96, none⟩), .pointer (some a), .int .u64 150]]).run Ybad.prog W = .ok (.bool false) W := by
  show (ReflectliteValue.parts (.agg #[.pointer (some ⟨3, 96, none⟩), .pointer (some a), .int .u64 150]) >>= _).run Ybad.prog W = _
  simp only [Sem.run_bind, as_partsP, Result.andThen]
  simp [ReflectliteValue.isNil, loadVar, isAgg, underlying, Ybad.underlying96, ha, Result.andThen]

theorem as_methodElem (h : Value) (w : World) : (Go.method 307 122 (.agg #[h]) "Elem").run Ybad.prog w = .ok (58, .agg #[h]) w := by kernel_rfl
theorem as_methodImplements (h : Value) (w : World) : (Go.method 307 122 (.agg #[h]) "Implements").run Ybad.prog w = .ok (59, .agg #[h]) w := by kernel_rfl
theorem as_methodAssignableTo (h : Value) (w : World) : (Go.method 307 122 (.agg #[h]) "AssignableTo").run Ybad.prog w = .ok (56, .agg #[h]) w := by kernel_rfl
theorem as_elemP (w : World) : (ReflectliteType.method ReflectliteType.elem #[.agg #[.pointer (some ⟨3, 96, none⟩)]]).run Ybad.prog w = .ok (.iface 122 (.agg #[.pointer (some ⟨3, 94, none⟩)])) w := by kernel_rfl
theorem as_implementsT (w : World) : (ReflectliteType.relation "Implements" ReflectliteType.implements_ #[.agg #[.pointer (some ⟨3, 94, none⟩)], .iface 122 (.agg #[.pointer (some ⟨3, 30, none⟩)])]).run Ybad.prog w = .ok (.bool true) w := by kernel_rfl
theorem as_typeOfT (v : Value) (w : World) : (ReflectliteType.typeOf #[.iface 94 v]).run Ybad.prog w = .ok (.iface 122 (.agg #[.pointer (some ⟨3, 94, none⟩)])) w := by kernel_rfl
theorem as_assignableT (w : World) : (ReflectliteType.relation "AssignableTo" ReflectliteType.assignableTo #[.agg #[.pointer (some ⟨3, 94, none⟩)], .iface 122 (.agg #[.pointer (some ⟨3, 94, none⟩)])]).run Ybad.prog w = .ok (.bool true) w := by kernel_rfl
theorem as_valueOfT (e : Addr) (w : World) : (ReflectliteValue.unpack (.iface 94 (.pointer (some e)))).run Ybad.prog w
    = .ok (.agg #[.pointer (some ⟨3, 94, none⟩), .pointer (some ⟨w.heap.size, 0, none⟩), .int .u64 150]) (w.alloc (.cells #[.pointer (some e)] 94)) := by kernel_rfl

theorem as_elemOfP (w : World) : (Rtype.elem? 96).run Ybad.prog w = .ok (some 94) w := by kernel_rfl
theorem as_mkT (p : Addr) (w : World) : (ReflectliteValue.mk 94 p ReflectliteValue.flagAddr).run Ybad.prog w = .ok (.agg #[.pointer (some ⟨3, 94, none⟩), .pointer (some p), .int .u64 406]) w := by kernel_rfl
/-- (Value).Elem at the Value of a **decodeError that is not nil: the Value of the *decodeError variable that it points to, addressable. -/
theorem as_elemVP (a p : Addr) (W : World) (ha : W.cell? a = some (.pointer (some p))) :
    (ReflectliteValue.method (ReflectliteValue.valueError "reflectlite.Value.Elem" 0) ReflectliteValue.elem #[.agg #[.pointer (some ⟨3, 96, none⟩), .pointer (some a), .int .u64 150]]).run Ybad.prog W
      = .ok (.agg #[.pointer (some ⟨3, 94, none⟩), .pointer (some p), .int .u64 406]) W := by
  show (ReflectliteValue.parts (.agg #[.pointer (some ⟨3, 96, none⟩), .pointer (some a), .int .u64 150]) >>= _).run Ybad.prog W = _
  simp only [Sem.run_bind, as_partsP, Result.andThen]
  simp [ReflectliteValue.elem, loadVar, isAgg, underlying, Ybad.underlying96, ha, Result.andThen, as_elemOfP, as_mkT]
theorem as_partsTa (a : Addr) (w : World) : (ReflectliteValue.parts (.agg #[.pointer (some ⟨3, 94, none⟩), .pointer (some a), .int .u64 406])).run Ybad.prog w = .ok (some (94, a, 406)) w := by kernel_rfl
theorem as_partsT (a : Addr) (w : World) : (ReflectliteValue.parts (.agg #[.pointer (some ⟨3, 94, none⟩), .pointer (some a), .int .u64 150])).run Ybad.prog w = .ok (some (94, a, 150)) w := by kernel_rfl
theorem as_directT (w : World) : (Rtype.directlyAssignable 94 94).run Ybad.prog w = .ok true w := by kernel_rfl
theorem as_sizeT (w : World) : (sizeOf 94).run Ybad.prog w = .ok 1 w := by kernel_rfl
/-- (Value).Set: the *decodeError variable at 'ta' gets what the Value's own variable 'b' holds. -/
theorem as_setT (ta b e : Addr) (old : Value) (W : World) (hb : W.cell? b = some (.pointer (some e))) (ht : W.cell? ta = some old) (hf : W.frozen? ta = false) :
    (ReflectliteValue.set #[.agg #[.pointer (some ⟨3, 94, none⟩), .pointer (some ta), .int .u64 406], .agg #[.pointer (some ⟨3, 94, none⟩), .pointer (some b), .int .u64 150]]).run Ybad.prog W
      = .ok (.tuple #[]) (W.setCell ta (.pointer (some e))) := by
  show (ReflectliteValue.parts (.agg #[.pointer (some ⟨3, 94, none⟩), .pointer (some ta), .int .u64 406]) >>= fun _ => ReflectliteValue.parts (.agg #[.pointer (some ⟨3, 94, none⟩), .pointer (some b), .int .u64 150]) >>= fun _ => _).run Ybad.prog W = _
  simp only [Sem.run_bind, as_partsTa, as_partsT, Result.andThen]
  simp [ReflectliteValue.flagAddr, loadVar, isAgg, underlying, Ybad.underlying94, hb, Result.andThen, as_directT, storeVar, Value.cells, storeCells, Addr.add]
  rw [run_store Ybad.prog W ta _ _ (by rfl)]
  simp [ht, hf]


set_option maxHeartbeats 4000000 in
theorem as_hit (e t : Addr) (old : Value) (w : World) (hg : w.cell? ⟨0, 0, none⟩ = some (.iface 122 (.agg #[.pointer (some ⟨3, 30, none⟩)]))) (ht0 : w.cell? t = some old) (hf0 : w.frozen? t = false) :
    Calls Ybad.prog 12 #[.iface 94 (.pointer (some e)), .iface 96 (.pointer (some t))] w fun ev w' => ev = .returned (.bool true) ∧ w' = ((((w.alloc (.cells #[.pointer (some t)] 96)).alloc (.cells #[.pointer (some ⟨3, 96, none⟩), .pointer (some ⟨w.heap.size, 0, none⟩), .int .u64 150] 108)).alloc (.cells #[.pointer (some ⟨3, 96, none⟩), .pointer (some ⟨w.heap.size, 0, none⟩), .int .u64 150] 108)).alloc (.cells #[.pointer (some e)] 94)).setCell t (.pointer (some e)) := by
  have h6 := @run_callFunc_extern Ybad.prog 17 _ (fun args => ReflectliteValue.unpack (args.getD 0 (.tuple #[]))) Ybad.func17 (by kernel_rfl) (by kernel_rfl) (by kernel_rfl) (by kernel_rfl)
  have h7 := @run_callFunc_extern Ybad.prog 18 _ (ReflectliteValue.methodAny (ReflectliteValue.valueError "reflectlite.Value.Type" 0) (fun t _ _ _ => ReflectliteType.toType t)) Ybad.func18 (by kernel_rfl) (by kernel_rfl) (by kernel_rfl) (by kernel_rfl)
  have h8 := @run_callFunc_extern Ybad.prog 19 _ (ReflectliteValue.method (ReflectliteValue.valueError "reflectlite.Value.IsNil" 0) ReflectliteValue.isNil) Ybad.func19 (by kernel_rfl) (by kernel_rfl) (by kernel_rfl) (by kernel_rfl)
  have h27 := @run_callFunc_extern Ybad.prog 40 _ (ReflectliteType.abiMethod fun t => do pure (.int .u8 (← Rtype.kind t))) Ybad.func40 (by kernel_rfl) (by kernel_rfl) (by kernel_rfl) (by kernel_rfl)
  have h37 := @run_callFunc_extern Ybad.prog 58 _ (ReflectliteType.method ReflectliteType.elem) Ybad.func58 (by kernel_rfl) (by kernel_rfl) (by kernel_rfl) (by kernel_rfl)
  have h38 := @run_callFunc_extern Ybad.prog 59 _ (ReflectliteType.relation "Implements" ReflectliteType.implements_) Ybad.func59 (by kernel_rfl) (by kernel_rfl) (by kernel_rfl) (by kernel_rfl)
  have h10 := @run_callFunc_extern Ybad.prog 23 _ ReflectliteType.typeOf Ybad.func23 (by kernel_rfl) (by kernel_rfl) (by kernel_rfl) (by kernel_rfl)
  have h35 := @run_callFunc_extern Ybad.prog 56 _ (ReflectliteType.relation "AssignableTo" ReflectliteType.assignableTo) Ybad.func56 (by kernel_rfl) (by kernel_rfl) (by kernel_rfl) (by kernel_rfl)
  have h11 := @run_callFunc_extern Ybad.prog 24 _ (ReflectliteValue.method (ReflectliteValue.valueError "reflectlite.Value.Elem" 0) ReflectliteValue.elem) Ybad.func24 (by kernel_rfl) (by kernel_rfl) (by kernel_rfl) (by kernel_rfl)
  have h12 := @run_callFunc_extern Ybad.prog 25 _ ReflectliteValue.set Ybad.func25 (by kernel_rfl) (by kernel_rfl) (by kernel_rfl) (by kernel_rfl)
  have tO := as_typeOfT
  have mA := as_methodAssignableTo
  have a25 := as_assignableT
  have v25 := as_valueOfT
  have f6 := as_valueOfP
  have f7 := as_typeP
  have mK := as_methodKind
  have mE := as_methodElem
  have mI := as_methodImplements
  have k27 := as_kindP
  have k25 := as_kindT
  have e27 := as_elemP
  have i25 := as_implementsT
  have n8 := as_isNilP ⟨w.heap.size, 0, none⟩ t ((w.alloc (.cells #[.pointer (some t)] 96)).alloc (.cells #[.pointer (some ⟨3, 96, none⟩), .pointer (some ⟨w.heap.size, 0, none⟩), .int .u64 150] 108)) (by simp)
  have hlt : 0 < w.heap.size := by
    rcases Nat.eq_zero_or_pos w.heap.size with h0 | h
    · simp [World.cell?, h0] at hg
    · exact h
  have hg2 : ((w.alloc (.cells #[.pointer (some t)] 96)).alloc (.cells #[.pointer (some ⟨3, 96, none⟩), .pointer (some ⟨w.heap.size, 0, none⟩), .int .u64 150] 108)).cell? ⟨0, 0, none⟩ = some (.iface 122 (.agg #[.pointer (some ⟨3, 30, none⟩)])) := by
    rw [World.cell?_alloc_lt _ _ ⟨0, 0, none⟩ (by simp), World.cell?_alloc_lt _ _ ⟨0, 0, none⟩ hlt]; exact hg
  have htl : t.block < w.heap.size := by
    rcases Nat.lt_or_ge t.block w.heap.size with h | h
    · exact h
    · simp [World.cell?, Array.getElem?_eq_none h] at ht0
  have el := as_elemVP ⟨w.heap.size, 0, none⟩ t (((w.alloc (.cells #[.pointer (some t)] 96)).alloc (.cells #[.pointer (some ⟨3, 96, none⟩), .pointer (some ⟨w.heap.size, 0, none⟩), .int .u64 150] 108)).alloc (.cells #[.pointer (some ⟨3, 96, none⟩), .pointer (some ⟨w.heap.size, 0, none⟩), .int .u64 150] 108)) (by rw [World.cell?_alloc_lt _ _ ⟨w.heap.size, 0, none⟩ (by simp; omega)]; simp)
  have st := as_setT t ⟨w.heap.size + 1 + 1 + 1, 0, none⟩ e old ((((w.alloc (.cells #[.pointer (some t)] 96)).alloc (.cells #[.pointer (some ⟨3, 96, none⟩), .pointer (some ⟨w.heap.size, 0, none⟩), .int .u64 150] 108)).alloc (.cells #[.pointer (some ⟨3, 96, none⟩), .pointer (some ⟨w.heap.size, 0, none⟩), .int .u64 150] 108)).alloc (.cells #[.pointer (some e)] 94))
    (by rw [World.cell?_alloc_at _ _ _ _ (by simp)]; rfl)
    (by rw [World.cell?_alloc_lt _ _ t (by simp; omega), World.cell?_alloc_lt _ _ t (by simp; omega), World.cell?_alloc_lt _ _ t (by simp; omega), World.cell?_alloc_lt _ _ t htl]; exact ht0)
    (by rw [World.frozen?_alloc_old _ _ t (by simp; omega), World.frozen?_alloc_old _ _ t (by simp; omega), World.frozen?_alloc_old _ _ t (by simp; omega), World.frozen?_alloc_old _ _ t (Nat.ne_of_lt htl)]; exact hf0)
  go_enter Ybad.func12, Ybad.ntmps12
  go_wp2
  refine wp_loop_rounds 1 ?_
  rw [rounds_succ]
  go_wp2
  go_ret
  exact ⟨rfl, rfl⟩
end Go.Proofs.YbulkbdjgDoor
