import Derived.Test.Qxb6614864aDoorProg
import Derived.WalkKit
import Derived.LaidEql
import Derived.Stop.Asserts
import Derived.RowKitTokens
namespace Go.Proofs.Qxb6614864aDoor
open Go.RowKit Go.Extern.Stop Go.Stop Go.Extern

theorem rlm (z : Sem Value) (f : TypeId → Addr → Nat → Nat → Sem Value) (v : Value) :
    ReflectliteValue.method z f #[v] = (do match ← ReflectliteValue.parts v with | none => z | some (t, a, fl) => f t a fl (fl % 32)) := rfl
theorem rls : ∃ (z0 : Sem Value) (z1 : TypeId → Addr → Nat → TypeId → Addr → Sem Value) (z2 : TypeId → Addr → TypeId → Value → Sem Value), ∀ v x, ReflectliteValue.set #[v, x] = (do
    let (some (dst, a, fl), some (src, b, _)) := (← ReflectliteValue.parts v, ← ReflectliteValue.parts x) | z0
    if fl / ReflectliteValue.flagAddr % 2 == 0 then z1 dst a fl src b
    else do
      let val ← loadVar src b
      if ← Rtype.directlyAssignable dst src then do storeVar dst a val; pure (.tuple #[])
      else z2 dst a src val) := ⟨_, _, _, fun _ _ => rfl⟩
theorem methodKind (h : Value) (w : World) : (Go.method 249 95 (.agg #[h]) "Kind").run Tryd.prog w = .ok (63, h) w := by kernel_rfl
theorem methodElem (h : Value) (w : World) : (Go.method 249 95 (.agg #[h]) "Elem").run Tryd.prog w = .ok (85, .agg #[h]) w := by kernel_rfl
theorem methodImplements (h : Value) (w : World) : (Go.method 249 95 (.agg #[h]) "Implements").run Tryd.prog w = .ok (86, .agg #[h]) w := by kernel_rfl
theorem methodAssignableTo (h : Value) (w : World) : (Go.method 249 95 (.agg #[h]) "AssignableTo").run Tryd.prog w = .ok (83, .agg #[h]) w := by kernel_rfl
theorem methodUnwrap (h : Value) (w : World) : (Go.method 249 70 h "Unwrap").run Tryd.prog w = .ok (78, h) w := by kernel_rfl

theorem valueOf65 (t : Addr) (w : World) : (ReflectliteValue.unpack (.iface 65 (.pointer (some t)))).run Tryd.prog w
    = .ok (.agg #[.pointer (some ⟨4, 65, none⟩), .pointer (some ⟨w.heap.size, 0, none⟩), .int .u64 150]) (w.alloc (.cells #[.pointer (some t)] 65)) := by kernel_rfl
theorem type65 (a : Addr) (w : World) : (ReflectliteValue.methodAny (ReflectliteValue.valueError "reflectlite.Value.Type" 0) (fun t _ _ _ => ReflectliteType.toType t) #[.agg #[.pointer (some ⟨4, 65, none⟩), .pointer (some a), .int .u64 150]]).run Tryd.prog w
    = .ok (.iface 95 (.agg #[.pointer (some ⟨4, 65, none⟩)])) w := by kernel_rfl
theorem kind65 (w : World) : ((ReflectliteType.abiMethod fun t => (fun a : Nat => Value.int IntKind.u8 (a : Int)) <$> Rtype.kind t) #[.pointer (some ⟨4, 65, none⟩)]).run Tryd.prog w = .ok (.int .u8 22) w := by kernel_rfl
theorem kind43 (w : World) : ((ReflectliteType.abiMethod fun t => (fun a : Nat => Value.int IntKind.u8 (a : Int)) <$> Rtype.kind t) #[.pointer (some ⟨4, 43, none⟩)]).run Tryd.prog w = .ok (.int .u8 22) w := by kernel_rfl
theorem parts65 (a : Addr) (w : World) : (ReflectliteValue.parts (.agg #[.pointer (some ⟨4, 65, none⟩), .pointer (some a), .int .u64 150])).run Tryd.prog w = .ok (some (65, a, 150)) w := by kernel_rfl
theorem isNil65 (a p : Addr) (W : World) (ha : W.cell? a = some (.pointer (some p))) :
    (ReflectliteValue.method (ReflectliteValue.valueError "reflectlite.Value.IsNil" 0) ReflectliteValue.isNil #[.agg #[.pointer (some ⟨4, 65, none⟩), .pointer (some a), .int .u64 150]]).run Tryd.prog W = .ok (.bool false) W := by
  rw [rlm]
  simp only [Sem.run_bind, parts65, Result.andThen]
  simp [ReflectliteValue.isNil, loadVar, isAgg, underlying, Tryd.underlying65, ha, Result.andThen]
theorem elem65 (w : World) : (ReflectliteType.method ReflectliteType.elem #[.agg #[.pointer (some ⟨4, 65, none⟩)]]).run Tryd.prog w = .ok (.iface 95 (.agg #[.pointer (some ⟨4, 43, none⟩)])) w := by kernel_rfl
theorem implements43 (w : World) : (ReflectliteType.relation "Implements" ReflectliteType.implements_ #[.agg #[.pointer (some ⟨4, 43, none⟩)], .iface 95 (.agg #[.pointer (some ⟨4, 32, none⟩)])]).run Tryd.prog w = .ok (.bool true) w := by kernel_rfl
theorem typeOf43 (v : Value) (w : World) : (ReflectliteType.typeOf #[.iface 43 v]).run Tryd.prog w = .ok (.iface 95 (.agg #[.pointer (some ⟨4, 43, none⟩)])) w := by kernel_rfl
theorem valueOf43 (e : Addr) (w : World) : (ReflectliteValue.unpack (.iface 43 (.pointer (some e)))).run Tryd.prog w
    = .ok (.agg #[.pointer (some ⟨4, 43, none⟩), .pointer (some ⟨w.heap.size, 0, none⟩), .int .u64 150]) (w.alloc (.cells #[.pointer (some e)] 43)) := by kernel_rfl
theorem elemOf65 (w : World) : (Rtype.elem? 65).run Tryd.prog w = .ok (some 43) w := by kernel_rfl
theorem mk43 (p : Addr) (w : World) : (ReflectliteValue.mk 43 p ReflectliteValue.flagAddr).run Tryd.prog w = .ok (.agg #[.pointer (some ⟨4, 43, none⟩), .pointer (some p), .int .u64 406]) w := by kernel_rfl
theorem elemV65 (a p : Addr) (W : World) (ha : W.cell? a = some (.pointer (some p))) :
    (ReflectliteValue.method (ReflectliteValue.valueError "reflectlite.Value.Elem" 0) ReflectliteValue.elem #[.agg #[.pointer (some ⟨4, 65, none⟩), .pointer (some a), .int .u64 150]]).run Tryd.prog W
      = .ok (.agg #[.pointer (some ⟨4, 43, none⟩), .pointer (some p), .int .u64 406]) W := by
  rw [rlm]
  simp only [Sem.run_bind, parts65, Result.andThen]
  simp [ReflectliteValue.elem, loadVar, isAgg, underlying, Tryd.underlying65, ha, Result.andThen, elemOf65, mk43]
theorem parts43a (a : Addr) (w : World) : (ReflectliteValue.parts (.agg #[.pointer (some ⟨4, 43, none⟩), .pointer (some a), .int .u64 406])).run Tryd.prog w = .ok (some (43, a, 406)) w := by kernel_rfl
theorem parts43 (a : Addr) (w : World) : (ReflectliteValue.parts (.agg #[.pointer (some ⟨4, 43, none⟩), .pointer (some a), .int .u64 150])).run Tryd.prog w = .ok (some (43, a, 150)) w := by kernel_rfl
theorem direct43 (w : World) : (Rtype.directlyAssignable 43 43).run Tryd.prog w = .ok true w := by kernel_rfl
theorem set43 (ta b e : Addr) (old : Value) (W : World) (hb : W.cell? b = some (.pointer (some e))) (ht : W.cell? ta = some old) (hf : W.frozen? ta = false) :
    (ReflectliteValue.set #[.agg #[.pointer (some ⟨4, 43, none⟩), .pointer (some ta), .int .u64 406], .agg #[.pointer (some ⟨4, 43, none⟩), .pointer (some b), .int .u64 150]]).run Tryd.prog W
      = .ok (.tuple #[]) (W.setCell ta (.pointer (some e))) := by
  obtain ⟨z0, z1, z2, h⟩ := rls
  rw [h]
  simp only [Sem.run_bind, parts43a, parts43, Result.andThen]
  simp [ReflectliteValue.flagAddr, loadVar, isAgg, underlying, Tryd.underlying43, hb, Result.andThen, direct43, storeVar, Value.cells, storeCells, Addr.add]
  rw [run_store Tryd.prog W ta _ _ (by rfl)]
  simp [ht, hf]

theorem valueOf66 (t : Addr) (w : World) : (ReflectliteValue.unpack (.iface 66 (.pointer (some t)))).run Tryd.prog w
    = .ok (.agg #[.pointer (some ⟨4, 66, none⟩), .pointer (some ⟨w.heap.size, 0, none⟩), .int .u64 150]) (w.alloc (.cells #[.pointer (some t)] 66)) := by kernel_rfl
theorem type66 (a : Addr) (w : World) : (ReflectliteValue.methodAny (ReflectliteValue.valueError "reflectlite.Value.Type" 0) (fun t _ _ _ => ReflectliteType.toType t) #[.agg #[.pointer (some ⟨4, 66, none⟩), .pointer (some a), .int .u64 150]]).run Tryd.prog w
    = .ok (.iface 95 (.agg #[.pointer (some ⟨4, 66, none⟩)])) w := by kernel_rfl
theorem kind66 (w : World) : ((ReflectliteType.abiMethod fun t => (fun a : Nat => Value.int IntKind.u8 (a : Int)) <$> Rtype.kind t) #[.pointer (some ⟨4, 66, none⟩)]).run Tryd.prog w = .ok (.int .u8 22) w := by kernel_rfl
theorem kind46 (w : World) : ((ReflectliteType.abiMethod fun t => (fun a : Nat => Value.int IntKind.u8 (a : Int)) <$> Rtype.kind t) #[.pointer (some ⟨4, 46, none⟩)]).run Tryd.prog w = .ok (.int .u8 22) w := by kernel_rfl
theorem parts66 (a : Addr) (w : World) : (ReflectliteValue.parts (.agg #[.pointer (some ⟨4, 66, none⟩), .pointer (some a), .int .u64 150])).run Tryd.prog w = .ok (some (66, a, 150)) w := by kernel_rfl
theorem isNil66 (a p : Addr) (W : World) (ha : W.cell? a = some (.pointer (some p))) :
    (ReflectliteValue.method (ReflectliteValue.valueError "reflectlite.Value.IsNil" 0) ReflectliteValue.isNil #[.agg #[.pointer (some ⟨4, 66, none⟩), .pointer (some a), .int .u64 150]]).run Tryd.prog W = .ok (.bool false) W := by
  rw [rlm]
  simp only [Sem.run_bind, parts66, Result.andThen]
  simp [ReflectliteValue.isNil, loadVar, isAgg, underlying, Tryd.underlying66, ha, Result.andThen]
theorem elem66 (w : World) : (ReflectliteType.method ReflectliteType.elem #[.agg #[.pointer (some ⟨4, 66, none⟩)]]).run Tryd.prog w = .ok (.iface 95 (.agg #[.pointer (some ⟨4, 46, none⟩)])) w := by kernel_rfl
theorem implements46 (w : World) : (ReflectliteType.relation "Implements" ReflectliteType.implements_ #[.agg #[.pointer (some ⟨4, 46, none⟩)], .iface 95 (.agg #[.pointer (some ⟨4, 32, none⟩)])]).run Tryd.prog w = .ok (.bool true) w := by kernel_rfl
theorem typeOf46 (v : Value) (w : World) : (ReflectliteType.typeOf #[.iface 46 v]).run Tryd.prog w = .ok (.iface 95 (.agg #[.pointer (some ⟨4, 46, none⟩)])) w := by kernel_rfl
theorem valueOf46 (e : Addr) (w : World) : (ReflectliteValue.unpack (.iface 46 (.pointer (some e)))).run Tryd.prog w
    = .ok (.agg #[.pointer (some ⟨4, 46, none⟩), .pointer (some ⟨w.heap.size, 0, none⟩), .int .u64 150]) (w.alloc (.cells #[.pointer (some e)] 46)) := by kernel_rfl
theorem elemOf66 (w : World) : (Rtype.elem? 66).run Tryd.prog w = .ok (some 46) w := by kernel_rfl
theorem mk46 (p : Addr) (w : World) : (ReflectliteValue.mk 46 p ReflectliteValue.flagAddr).run Tryd.prog w = .ok (.agg #[.pointer (some ⟨4, 46, none⟩), .pointer (some p), .int .u64 406]) w := by kernel_rfl
theorem elemV66 (a p : Addr) (W : World) (ha : W.cell? a = some (.pointer (some p))) :
    (ReflectliteValue.method (ReflectliteValue.valueError "reflectlite.Value.Elem" 0) ReflectliteValue.elem #[.agg #[.pointer (some ⟨4, 66, none⟩), .pointer (some a), .int .u64 150]]).run Tryd.prog W
      = .ok (.agg #[.pointer (some ⟨4, 46, none⟩), .pointer (some p), .int .u64 406]) W := by
  rw [rlm]
  simp only [Sem.run_bind, parts66, Result.andThen]
  simp [ReflectliteValue.elem, loadVar, isAgg, underlying, Tryd.underlying66, ha, Result.andThen, elemOf66, mk46]
theorem parts46a (a : Addr) (w : World) : (ReflectliteValue.parts (.agg #[.pointer (some ⟨4, 46, none⟩), .pointer (some a), .int .u64 406])).run Tryd.prog w = .ok (some (46, a, 406)) w := by kernel_rfl
theorem parts46 (a : Addr) (w : World) : (ReflectliteValue.parts (.agg #[.pointer (some ⟨4, 46, none⟩), .pointer (some a), .int .u64 150])).run Tryd.prog w = .ok (some (46, a, 150)) w := by kernel_rfl
theorem direct46 (w : World) : (Rtype.directlyAssignable 46 46).run Tryd.prog w = .ok true w := by kernel_rfl
theorem set46 (ta b e : Addr) (old : Value) (W : World) (hb : W.cell? b = some (.pointer (some e))) (ht : W.cell? ta = some old) (hf : W.frozen? ta = false) :
    (ReflectliteValue.set #[.agg #[.pointer (some ⟨4, 46, none⟩), .pointer (some ta), .int .u64 406], .agg #[.pointer (some ⟨4, 46, none⟩), .pointer (some b), .int .u64 150]]).run Tryd.prog W
      = .ok (.tuple #[]) (W.setCell ta (.pointer (some e))) := by
  obtain ⟨z0, z1, z2, h⟩ := rls
  rw [h]
  simp only [Sem.run_bind, parts46a, parts46, Result.andThen]
  simp [ReflectliteValue.flagAddr, loadVar, isAgg, underlying, Tryd.underlying46, hb, Result.andThen, direct46, storeVar, Value.cells, storeCells, Addr.add]
  rw [run_store Tryd.prog W ta _ _ (by rfl)]
  simp [ht, hf]

theorem typeOf70 (v : Value) (w : World) : (ReflectliteType.typeOf #[.iface 70 v]).run Tryd.prog w = .ok (.iface 95 (.agg #[.pointer (some ⟨4, 70, none⟩)])) w := by kernel_rfl

theorem assignable43_43 (w : World) : (ReflectliteType.relation "AssignableTo" ReflectliteType.assignableTo #[.agg #[.pointer (some ⟨4, 43, none⟩)], .iface 95 (.agg #[.pointer (some ⟨4, 43, none⟩)])]).run Tryd.prog w = .ok (.bool true) w := by kernel_rfl
theorem assignable43_46 (w : World) : (ReflectliteType.relation "AssignableTo" ReflectliteType.assignableTo #[.agg #[.pointer (some ⟨4, 43, none⟩)], .iface 95 (.agg #[.pointer (some ⟨4, 46, none⟩)])]).run Tryd.prog w = .ok (.bool false) w := by kernel_rfl
theorem assignable46_43 (w : World) : (ReflectliteType.relation "AssignableTo" ReflectliteType.assignableTo #[.agg #[.pointer (some ⟨4, 46, none⟩)], .iface 95 (.agg #[.pointer (some ⟨4, 43, none⟩)])]).run Tryd.prog w = .ok (.bool false) w := by kernel_rfl
theorem assignable46_46 (w : World) : (ReflectliteType.relation "AssignableTo" ReflectliteType.assignableTo #[.agg #[.pointer (some ⟨4, 46, none⟩)], .iface 95 (.agg #[.pointer (some ⟨4, 46, none⟩)])]).run Tryd.prog w = .ok (.bool true) w := by kernel_rfl
theorem assignable70_43 (w : World) : (ReflectliteType.relation "AssignableTo" ReflectliteType.assignableTo #[.agg #[.pointer (some ⟨4, 70, none⟩)], .iface 95 (.agg #[.pointer (some ⟨4, 43, none⟩)])]).run Tryd.prog w = .ok (.bool false) w := by kernel_rfl
theorem assignable70_46 (w : World) : (ReflectliteType.relation "AssignableTo" ReflectliteType.assignableTo #[.agg #[.pointer (some ⟨4, 70, none⟩)], .iface 95 (.agg #[.pointer (some ⟨4, 46, none⟩)])]).run Tryd.prog w = .ok (.bool false) w := by kernel_rfl
theorem lacks43_100 (v : Value) (xT : TypeId) (w : World) : (Instr.typeAssert (.iface 43 v) xT 100 true).run Tryd.prog w = .ok (.tuple #[.nilIface, .bool false]) w := run_typeAssert_lacksB Tryd.underlying100 (by kernel_rfl) (by kernel_rfl) v xT w
theorem lacks43_103 (v : Value) (xT : TypeId) (w : World) : (Instr.typeAssert (.iface 43 v) xT 103 true).run Tryd.prog w = .ok (.tuple #[.nilIface, .bool false]) w := run_typeAssert_lacksB Tryd.underlying103 (by kernel_rfl) (by kernel_rfl) v xT w
theorem lacks43_104 (v : Value) (xT : TypeId) (w : World) : (Instr.typeAssert (.iface 43 v) xT 104 true).run Tryd.prog w = .ok (.tuple #[.nilIface, .bool false]) w := run_typeAssert_lacksB Tryd.underlying104 (by kernel_rfl) (by kernel_rfl) v xT w
theorem lacks46_100 (v : Value) (xT : TypeId) (w : World) : (Instr.typeAssert (.iface 46 v) xT 100 true).run Tryd.prog w = .ok (.tuple #[.nilIface, .bool false]) w := run_typeAssert_lacksB Tryd.underlying100 (by kernel_rfl) (by kernel_rfl) v xT w
theorem lacks46_103 (v : Value) (xT : TypeId) (w : World) : (Instr.typeAssert (.iface 46 v) xT 103 true).run Tryd.prog w = .ok (.tuple #[.nilIface, .bool false]) w := run_typeAssert_lacksB Tryd.underlying103 (by kernel_rfl) (by kernel_rfl) v xT w
theorem lacks46_104 (v : Value) (xT : TypeId) (w : World) : (Instr.typeAssert (.iface 46 v) xT 104 true).run Tryd.prog w = .ok (.tuple #[.nilIface, .bool false]) w := run_typeAssert_lacksB Tryd.underlying104 (by kernel_rfl) (by kernel_rfl) v xT w
theorem lacks70_100 (v : Value) (xT : TypeId) (w : World) : (Instr.typeAssert (.iface 70 v) xT 100 true).run Tryd.prog w = .ok (.tuple #[.nilIface, .bool false]) w := run_typeAssert_lacksB Tryd.underlying100 (by kernel_rfl) (by kernel_rfl) v xT w
theorem lacks70_103 (v : Value) (xT : TypeId) (w : World) : (Instr.typeAssert (.iface 70 v) xT 103 true).run Tryd.prog w = .ok (.tuple #[.nilIface, .bool false]) w := run_typeAssert_lacksB Tryd.underlying103 (by kernel_rfl) (by kernel_rfl) v xT w
theorem has70_104 (v : Value) (xT : TypeId) (w : World) : (Instr.typeAssert (.iface 70 v) xT 104 true).run Tryd.prog w = .ok (.tuple #[.iface 70 v, .bool true]) w := run_typeAssert_hasB Tryd.underlying104 (by kernel_rfl) v xT w

theorem h39 (args : Array Value) (w : World) : (callFunc 39 args).run Tryd.prog w = ((ReflectliteValue.unpack (args.getD 0 (.tuple #[]))).run Tryd.prog w).andThen fun v w' => .ok (.value v) w' := @run_callFunc_extern Tryd.prog 39 _ (fun args => ReflectliteValue.unpack (args.getD 0 (.tuple #[]))) Tryd.func39 (by kernel_rfl) (by kernel_rfl) (by kernel_rfl) (by kernel_rfl) args w
theorem h40 (args : Array Value) (w : World) : (callFunc 40 args).run Tryd.prog w = (((ReflectliteValue.methodAny (ReflectliteValue.valueError "reflectlite.Value.Type" 0) (fun t _ _ _ => ReflectliteType.toType t)) args).run Tryd.prog w).andThen fun v w' => .ok (.value v) w' := @run_callFunc_extern Tryd.prog 40 _ (ReflectliteValue.methodAny (ReflectliteValue.valueError "reflectlite.Value.Type" 0) (fun t _ _ _ => ReflectliteType.toType t)) Tryd.func40 (by kernel_rfl) (by kernel_rfl) (by kernel_rfl) (by kernel_rfl) args w
theorem h41 (args : Array Value) (w : World) : (callFunc 41 args).run Tryd.prog w = (((ReflectliteValue.method (ReflectliteValue.valueError "reflectlite.Value.IsNil" 0) ReflectliteValue.isNil) args).run Tryd.prog w).andThen fun v w' => .ok (.value v) w' := @run_callFunc_extern Tryd.prog 41 _ (ReflectliteValue.method (ReflectliteValue.valueError "reflectlite.Value.IsNil" 0) ReflectliteValue.isNil) Tryd.func41 (by kernel_rfl) (by kernel_rfl) (by kernel_rfl) (by kernel_rfl) args w
theorem h63 (args : Array Value) (w : World) : (callFunc 63 args).run Tryd.prog w = (((ReflectliteType.abiMethod fun t => do pure (.int .u8 (← Rtype.kind t))) args).run Tryd.prog w).andThen fun v w' => .ok (.value v) w' := @run_callFunc_extern Tryd.prog 63 _ (ReflectliteType.abiMethod fun t => do pure (.int .u8 (← Rtype.kind t))) Tryd.func63 (by kernel_rfl) (by kernel_rfl) (by kernel_rfl) (by kernel_rfl) args w
theorem h85 (args : Array Value) (w : World) : (callFunc 85 args).run Tryd.prog w = (((ReflectliteType.method ReflectliteType.elem) args).run Tryd.prog w).andThen fun v w' => .ok (.value v) w' := @run_callFunc_extern Tryd.prog 85 _ (ReflectliteType.method ReflectliteType.elem) Tryd.func85 (by kernel_rfl) (by kernel_rfl) (by kernel_rfl) (by kernel_rfl) args w
theorem h86 (args : Array Value) (w : World) : (callFunc 86 args).run Tryd.prog w = (((ReflectliteType.relation "Implements" ReflectliteType.implements_) args).run Tryd.prog w).andThen fun v w' => .ok (.value v) w' := @run_callFunc_extern Tryd.prog 86 _ (ReflectliteType.relation "Implements" ReflectliteType.implements_) Tryd.func86 (by kernel_rfl) (by kernel_rfl) (by kernel_rfl) (by kernel_rfl) args w
theorem h46 (args : Array Value) (w : World) : (callFunc 46 args).run Tryd.prog w = ((ReflectliteType.typeOf args).run Tryd.prog w).andThen fun v w' => .ok (.value v) w' := @run_callFunc_extern Tryd.prog 46 _ ReflectliteType.typeOf Tryd.func46 (by kernel_rfl) (by kernel_rfl) (by kernel_rfl) (by kernel_rfl) args w
theorem h83 (args : Array Value) (w : World) : (callFunc 83 args).run Tryd.prog w = (((ReflectliteType.relation "AssignableTo" ReflectliteType.assignableTo) args).run Tryd.prog w).andThen fun v w' => .ok (.value v) w' := @run_callFunc_extern Tryd.prog 83 _ (ReflectliteType.relation "AssignableTo" ReflectliteType.assignableTo) Tryd.func83 (by kernel_rfl) (by kernel_rfl) (by kernel_rfl) (by kernel_rfl) args w
theorem h47 (args : Array Value) (w : World) : (callFunc 47 args).run Tryd.prog w = (((ReflectliteValue.method (ReflectliteValue.valueError "reflectlite.Value.Elem" 0) ReflectliteValue.elem) args).run Tryd.prog w).andThen fun v w' => .ok (.value v) w' := @run_callFunc_extern Tryd.prog 47 _ (ReflectliteValue.method (ReflectliteValue.valueError "reflectlite.Value.Elem" 0) ReflectliteValue.elem) Tryd.func47 (by kernel_rfl) (by kernel_rfl) (by kernel_rfl) (by kernel_rfl) args w
theorem h48 (args : Array Value) (w : World) : (callFunc 48 args).run Tryd.prog w = ((ReflectliteValue.set args).run Tryd.prog w).andThen fun v w' => .ok (.value v) w' := @run_callFunc_extern Tryd.prog 48 _ ReflectliteValue.set Tryd.func48 (by kernel_rfl) (by kernel_rfl) (by kernel_rfl) (by kernel_rfl) args w

end Go.Proofs.Qxb6614864aDoor
