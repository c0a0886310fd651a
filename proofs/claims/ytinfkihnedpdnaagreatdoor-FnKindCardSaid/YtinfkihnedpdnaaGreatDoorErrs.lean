/- The contracts of errors.As at an UnsupportedError: at a *FormatError it answers false, at an *UnsupportedError true; beside new blocks it changes the target alone. Its one condition is what the variable errors.errorType holds. -/
import Derived.Test.YtinfkihnedpdnaaGreatDoorSmall
import Derived.LaidEql
import Derived.Stop.Asserts
import Derived.RowKitTokens
import Derived.Lib.Hide
namespace Go.Proofs.YtinfkihnedpdnaaGreatDoor
open Go.RowKit Go.Extern.Stop Go.Stop Go.Extern

theorem valueOf76 (t : Addr) (w : World) : (ReflectliteValue.unpack (.iface 76 (.pointer (some t)))).run Tryz.prog w
    = .ok (.agg #[.pointer (some ⟨16, 76, none⟩), .pointer (some ⟨w.heap.size, 0, none⟩), .int .u64 150]) (w.alloc (.cells #[.pointer (some t)] 76)) := by kernel_rfl
theorem valueOf77 (t : Addr) (w : World) : (ReflectliteValue.unpack (.iface 77 (.pointer (some t)))).run Tryz.prog w
    = .ok (.agg #[.pointer (some ⟨16, 77, none⟩), .pointer (some ⟨w.heap.size, 0, none⟩), .int .u64 150]) (w.alloc (.cells #[.pointer (some t)] 77)) := by kernel_rfl
theorem type76 (a : Addr) (w : World) : (ReflectliteValue.methodAny (ReflectliteValue.valueError "reflectlite.Value.Type" 0) (fun t _ _ _ => ReflectliteType.toType t) #[.agg #[.pointer (some ⟨16, 76, none⟩), .pointer (some a), .int .u64 150]]).run Tryz.prog w
    = .ok (.iface 111 (.agg #[.pointer (some ⟨16, 76, none⟩)])) w := by kernel_rfl
theorem type77 (a : Addr) (w : World) : (ReflectliteValue.methodAny (ReflectliteValue.valueError "reflectlite.Value.Type" 0) (fun t _ _ _ => ReflectliteType.toType t) #[.agg #[.pointer (some ⟨16, 77, none⟩), .pointer (some a), .int .u64 150]]).run Tryz.prog w
    = .ok (.iface 111 (.agg #[.pointer (some ⟨16, 77, none⟩)])) w := by kernel_rfl
theorem methodKind (h : Value) (w : World) : (Go.method 407 111 (.agg #[h]) "Kind").run Tryz.prog w = .ok (131, h) w := by kernel_rfl
theorem kind76 (w : World) : ((ReflectliteType.abiMethod fun t => (fun a : Nat => Value.int IntKind.u8 (a : Int)) <$> Rtype.kind t) #[.pointer (some ⟨16, 76, none⟩)]).run Tryz.prog w = .ok (.int .u8 22) w := by kernel_rfl
theorem kind77 (w : World) : ((ReflectliteType.abiMethod fun t => (fun a : Nat => Value.int IntKind.u8 (a : Int)) <$> Rtype.kind t) #[.pointer (some ⟨16, 77, none⟩)]).run Tryz.prog w = .ok (.int .u8 22) w := by kernel_rfl
theorem kind73 (w : World) : ((ReflectliteType.abiMethod fun t => (fun a : Nat => Value.int IntKind.u8 (a : Int)) <$> Rtype.kind t) #[.pointer (some ⟨16, 73, none⟩)]).run Tryz.prog w = .ok (.int .u8 24) w := by kernel_rfl
theorem kind74 (w : World) : ((ReflectliteType.abiMethod fun t => (fun a : Nat => Value.int IntKind.u8 (a : Int)) <$> Rtype.kind t) #[.pointer (some ⟨16, 74, none⟩)]).run Tryz.prog w = .ok (.int .u8 24) w := by kernel_rfl

theorem rlm (z : Sem Value) (f : TypeId → Addr → Nat → Nat → Sem Value) (v : Value) :
    ReflectliteValue.method z f #[v] = (do match ← ReflectliteValue.parts v with | none => z | some (t, a, fl) => f t a fl (fl % 32)) := rfl
theorem parts76 (a : Addr) (w : World) : (ReflectliteValue.parts (.agg #[.pointer (some ⟨16, 76, none⟩), .pointer (some a), .int .u64 150])).run Tryz.prog w = .ok (some (76, a, 150)) w := by kernel_rfl
theorem parts77 (a : Addr) (w : World) : (ReflectliteValue.parts (.agg #[.pointer (some ⟨16, 77, none⟩), .pointer (some a), .int .u64 150])).run Tryz.prog w = .ok (some (77, a, 150)) w := by kernel_rfl
theorem isNil76 (a p : Addr) (W : World) (ha : W.cell? a = some (.pointer (some p))) :
    (ReflectliteValue.method (ReflectliteValue.valueError "reflectlite.Value.IsNil" 0) ReflectliteValue.isNil #[.agg #[.pointer (some ⟨16, 76, none⟩), .pointer (some a), .int .u64 150]]).run Tryz.prog W = .ok (.bool false) W := by
  rw [rlm]
  simp only [Sem.run_bind, parts76, Result.andThen]
  simp [ReflectliteValue.isNil, loadVar, isAgg, underlying, Tryz.underlying76, ha, Result.andThen]
theorem isNil77 (a p : Addr) (W : World) (ha : W.cell? a = some (.pointer (some p))) :
    (ReflectliteValue.method (ReflectliteValue.valueError "reflectlite.Value.IsNil" 0) ReflectliteValue.isNil #[.agg #[.pointer (some ⟨16, 77, none⟩), .pointer (some a), .int .u64 150]]).run Tryz.prog W = .ok (.bool false) W := by
  rw [rlm]
  simp only [Sem.run_bind, parts77, Result.andThen]
  simp [ReflectliteValue.isNil, loadVar, isAgg, underlying, Tryz.underlying77, ha, Result.andThen]

theorem methodElem (h : Value) (w : World) : (Go.method 407 111 (.agg #[h]) "Elem").run Tryz.prog w = .ok (150, .agg #[h]) w := by kernel_rfl
theorem methodImplements (h : Value) (w : World) : (Go.method 407 111 (.agg #[h]) "Implements").run Tryz.prog w = .ok (151, .agg #[h]) w := by kernel_rfl
theorem methodAssignableTo (h : Value) (w : World) : (Go.method 407 111 (.agg #[h]) "AssignableTo").run Tryz.prog w = .ok (148, .agg #[h]) w := by kernel_rfl
theorem elem76 (w : World) : (ReflectliteType.method ReflectliteType.elem #[.agg #[.pointer (some ⟨16, 76, none⟩)]]).run Tryz.prog w = .ok (.iface 111 (.agg #[.pointer (some ⟨16, 73, none⟩)])) w := by kernel_rfl
theorem elem77 (w : World) : (ReflectliteType.method ReflectliteType.elem #[.agg #[.pointer (some ⟨16, 77, none⟩)]]).run Tryz.prog w = .ok (.iface 111 (.agg #[.pointer (some ⟨16, 74, none⟩)])) w := by kernel_rfl
theorem implements73 (w : World) : (ReflectliteType.relation "Implements" ReflectliteType.implements_ #[.agg #[.pointer (some ⟨16, 73, none⟩)], .iface 111 (.agg #[.pointer (some ⟨16, 42, none⟩)])]).run Tryz.prog w = .ok (.bool true) w := by kernel_rfl
theorem implements74 (w : World) : (ReflectliteType.relation "Implements" ReflectliteType.implements_ #[.agg #[.pointer (some ⟨16, 74, none⟩)], .iface 111 (.agg #[.pointer (some ⟨16, 42, none⟩)])]).run Tryz.prog w = .ok (.bool true) w := by kernel_rfl
theorem typeOf74 (v : Value) (w : World) : (ReflectliteType.typeOf #[.iface 74 v]).run Tryz.prog w = .ok (.iface 111 (.agg #[.pointer (some ⟨16, 74, none⟩)])) w := by kernel_rfl
theorem assignable73 (w : World) : (ReflectliteType.relation "AssignableTo" ReflectliteType.assignableTo #[.agg #[.pointer (some ⟨16, 74, none⟩)], .iface 111 (.agg #[.pointer (some ⟨16, 73, none⟩)])]).run Tryz.prog w = .ok (.bool false) w := by kernel_rfl
theorem assignable74 (w : World) : (ReflectliteType.relation "AssignableTo" ReflectliteType.assignableTo #[.agg #[.pointer (some ⟨16, 74, none⟩)], .iface 111 (.agg #[.pointer (some ⟨16, 74, none⟩)])]).run Tryz.prog w = .ok (.bool true) w := by kernel_rfl
theorem valueOf74 (s : ByteArray) (w : World) : (ReflectliteValue.unpack (.iface 74 (.string s))).run Tryz.prog w
    = .ok (.agg #[.pointer (some ⟨16, 74, none⟩), .pointer (some ⟨w.heap.size, 0, none⟩), .int .u64 152]) (w.alloc (.cells #[.string s] 74)) := by kernel_rfl
theorem elemOf77 (w : World) : (Rtype.elem? 77).run Tryz.prog w = .ok (some 74) w := by kernel_rfl
theorem mk74 (p : Addr) (w : World) : (ReflectliteValue.mk 74 p ReflectliteValue.flagAddr).run Tryz.prog w = .ok (.agg #[.pointer (some ⟨16, 74, none⟩), .pointer (some p), .int .u64 408]) w := by kernel_rfl
theorem elemV77 (a p : Addr) (W : World) (ha : W.cell? a = some (.pointer (some p))) :
    (ReflectliteValue.method (ReflectliteValue.valueError "reflectlite.Value.Elem" 0) ReflectliteValue.elem #[.agg #[.pointer (some ⟨16, 77, none⟩), .pointer (some a), .int .u64 150]]).run Tryz.prog W
      = .ok (.agg #[.pointer (some ⟨16, 74, none⟩), .pointer (some p), .int .u64 408]) W := by
  rw [rlm]
  simp only [Sem.run_bind, parts77, Result.andThen]
  simp [ReflectliteValue.elem, loadVar, isAgg, underlying, Tryz.underlying77, ha, Result.andThen, elemOf77, mk74]
theorem rls (v x : Value) : ReflectliteValue.set #[v, x] = (do
    let (some (dst, a, fl), some (src, b, _)) := (← ReflectliteValue.parts v, ← ReflectliteValue.parts x)
      | unsupported (.noEntry "extern/(internal/reflectlite.Value).Set.zeroValue")
    if fl / ReflectliteValue.flagAddr % 2 == 0 then unsupported (.noEntry "extern/(internal/reflectlite.Value).Set.unaddressable")
    let val ← loadVar src b
    if ← Rtype.directlyAssignable dst src then storeVar dst a val
    else if ← Rtype.implements dst src then
      if (← Rtype.kind src) == 20 then
        match val with
        | .nilIface => unsupported (.noEntry "extern/reflectlite: a nil value of one interface type handed on as a value of another")
        | _ => storeVar dst a val
      else storeVar dst a (.iface src val)
    else panicString ("reflectlite.Set: value of type " ++ (← Rtype.spelt src) ++ " is not assignable to type " ++ (← Rtype.spelt dst))
    pure (.tuple #[])) := rfl
theorem parts74a (a : Addr) (w : World) : (ReflectliteValue.parts (.agg #[.pointer (some ⟨16, 74, none⟩), .pointer (some a), .int .u64 408])).run Tryz.prog w = .ok (some (74, a, 408)) w := by kernel_rfl
theorem parts74 (a : Addr) (w : World) : (ReflectliteValue.parts (.agg #[.pointer (some ⟨16, 74, none⟩), .pointer (some a), .int .u64 152])).run Tryz.prog w = .ok (some (74, a, 152)) w := by kernel_rfl
theorem direct74 (w : World) : (Rtype.directlyAssignable 74 74).run Tryz.prog w = .ok true w := by kernel_rfl
theorem set74 (ta b : Addr) (s : ByteArray) (old : Value) (W : World) (hb : W.cell? b = some (.string s)) (ht : W.cell? ta = some old) (hf : W.frozen? ta = false) :
    (ReflectliteValue.set #[.agg #[.pointer (some ⟨16, 74, none⟩), .pointer (some ta), .int .u64 408], .agg #[.pointer (some ⟨16, 74, none⟩), .pointer (some b), .int .u64 152]]).run Tryz.prog W
      = .ok (.tuple #[]) (W.setCell ta (.string s)) := by
  rw [rls]
  simp only [Sem.run_bind, parts74a, parts74, Result.andThen]
  simp [ReflectliteValue.flagAddr, loadVar, isAgg, underlying, Tryz.underlying74, hb, Result.andThen, direct74, storeVar, Value.cells, storeCells, Addr.add]
  rw [run_store Tryz.prog W ta _ _ (by rfl)]
  simp [ht, hf]

end Go.Proofs.YtinfkihnedpdnaaGreatDoor
