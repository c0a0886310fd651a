/- The contracts of errors.As at an UnsupportedError: at a *FormatError it answers false, at an *UnsupportedError true; beside new blocks it changes the target alone. Its one condition is what the variable errors.errorType holds. -/
import Derived.Test.YtinfkihnedpdnaaGreatDoorErrs
import Derived.Test.YtinfkihnedpdnaaGreatDoorDigest
namespace Go.Proofs.YtinfkihnedpdnaaGreatDoor
open Go.RowKit Go.Extern.Stop Go.Stop Go.Extern

/-- The variable errors.errorType holds the handle of the type error. -/
def Handle (w : World) : Prop := w.cell? ⟨2, 0, none⟩ = some (.iface 111 (.agg #[.pointer (some ⟨16, 42, none⟩)]))

theorem noAs (v : Value) (x : TypeId) (w : World) : (Instr.typeAssert (.iface 74 v) x 116 true).run Tryz.prog w = .ok (.tuple #[.nilIface, .bool false]) w :=
  run_typeAssert_lacksB Tryz.underlying116 (by kernel_rfl) (by kernel_rfl) v x w
theorem noUnwrap (v : Value) (x : TypeId) (w : World) : (Instr.typeAssert (.iface 74 v) x 119 true).run Tryz.prog w = .ok (.tuple #[.nilIface, .bool false]) w :=
  run_typeAssert_lacksB Tryz.underlying119 (by kernel_rfl) (by kernel_rfl) v x w
theorem noUnwraps (v : Value) (x : TypeId) (w : World) : (Instr.typeAssert (.iface 74 v) x 120 true).run Tryz.prog w = .ok (.tuple #[.nilIface, .bool false]) w :=
  run_typeAssert_lacksB Tryz.underlying120 (by kernel_rfl) (by kernel_rfl) v x w

def AsPost (w w' : World) (t : Addr) (b : Bool) (e : Ending) : Prop := e = .returned (.bool b) ∧ Kept (fun k => k = t.block) w w'

set_option maxRecDepth 100000 in
set_option maxHeartbeats 2000000 in
theorem as_miss (s : ByteArray) (t : Addr) (old : Value) (w : World) (hg : Handle w) (ht0 : w.cell? t = some old) :
    Calls Tryz.prog 22 #[.iface 74 (.string s), .iface 76 (.pointer (some t))] w fun e w' => AsPost w w' t false e := by
  have h35 := @run_callFunc_extern Tryz.prog 35 _ (fun args => ReflectliteValue.unpack (args.getD 0 (.tuple #[]))) Tryz.func35 (by kernel_rfl) (by kernel_rfl) (by kernel_rfl) (by kernel_rfl)
  have h36 := @run_callFunc_extern Tryz.prog 36 _ (ReflectliteValue.methodAny (ReflectliteValue.valueError "reflectlite.Value.Type" 0) (fun t _ _ _ => ReflectliteType.toType t)) Tryz.func36 (by kernel_rfl) (by kernel_rfl) (by kernel_rfl) (by kernel_rfl)
  have h37 := @run_callFunc_extern Tryz.prog 37 _ (ReflectliteValue.method (ReflectliteValue.valueError "reflectlite.Value.IsNil" 0) ReflectliteValue.isNil) Tryz.func37 (by kernel_rfl) (by kernel_rfl) (by kernel_rfl) (by kernel_rfl)
  have h131 := @run_callFunc_extern Tryz.prog 131 _ (ReflectliteType.abiMethod fun t => do pure (.int .u8 (← Rtype.kind t))) Tryz.func131 (by kernel_rfl) (by kernel_rfl) (by kernel_rfl) (by kernel_rfl)
  have h150 := @run_callFunc_extern Tryz.prog 150 _ (ReflectliteType.method ReflectliteType.elem) Tryz.func150 (by kernel_rfl) (by kernel_rfl) (by kernel_rfl) (by kernel_rfl)
  have h151 := @run_callFunc_extern Tryz.prog 151 _ (ReflectliteType.relation "Implements" ReflectliteType.implements_) Tryz.func151 (by kernel_rfl) (by kernel_rfl) (by kernel_rfl) (by kernel_rfl)
  have h44 := @run_callFunc_extern Tryz.prog 44 _ ReflectliteType.typeOf Tryz.func44 (by kernel_rfl) (by kernel_rfl) (by kernel_rfl) (by kernel_rfl)
  have h148 := @run_callFunc_extern Tryz.prog 148 _ (ReflectliteType.relation "AssignableTo" ReflectliteType.assignableTo) Tryz.func148 (by kernel_rfl) (by kernel_rfl) (by kernel_rfl) (by kernel_rfl)
  have q1 := noAs
  have q2 := noUnwrap
  have q3 := noUnwraps
  have tO := typeOf74
  have mA := methodAssignableTo
  have a73 := assignable73
  have f6 := valueOf76
  have f7 := type76
  have mK := methodKind
  have mE := methodElem
  have mI := methodImplements
  have k76 := kind76
  have k73 := kind73
  have e76 := elem76
  have i73 := implements73
  have n8 := isNil76 ⟨w.heap.size, 0, none⟩ t ((w.alloc (.cells #[.pointer (some t)] 76)).alloc (.cells #[.pointer (some ⟨16, 76, none⟩), .pointer (some ⟨w.heap.size, 0, none⟩), .int .u64 150] 93)) (by simp)
  have hlt : 2 < w.heap.size := by
    rcases Nat.lt_or_ge 2 w.heap.size with h | h
    · exact h
    · exact absurd hg (by unfold Handle; simp [World.cell?, Array.getElem?_eq_none h])
  have hg2 : ((w.alloc (.cells #[.pointer (some t)] 76)).alloc (.cells #[.pointer (some ⟨16, 76, none⟩), .pointer (some ⟨w.heap.size, 0, none⟩), .int .u64 150] 93)).cell? ⟨2, 0, none⟩ = some (.iface 111 (.agg #[.pointer (some ⟨16, 42, none⟩)])) := by
    rw [World.cell?_alloc_lt _ _ ⟨2, 0, none⟩ (by simp; omega), World.cell?_alloc_lt _ _ ⟨2, 0, none⟩ hlt]; exact hg
  clear hg
  go_enter Tryz.func22, Tryz.ntmps22
  go_wp2
  refine wp_loop_rounds 1 ?_
  rw [rounds_succ]
  go_wp2
  go_ret
  exact ⟨rfl, (((Kept.refl _ w).alloc _).alloc _).alloc _⟩

set_option maxRecDepth 100000 in
set_option maxHeartbeats 2000000 in
theorem as_hit (s : ByteArray) (t : Addr) (old : Value) (w : World) (hg : Handle w) (ht0 : w.cell? t = some old) (hf0 : w.frozen? t = false) :
    Calls Tryz.prog 22 #[.iface 74 (.string s), .iface 77 (.pointer (some t))] w fun e w' => AsPost w w' t true e := by
  have h35 := @run_callFunc_extern Tryz.prog 35 _ (fun args => ReflectliteValue.unpack (args.getD 0 (.tuple #[]))) Tryz.func35 (by kernel_rfl) (by kernel_rfl) (by kernel_rfl) (by kernel_rfl)
  have h36 := @run_callFunc_extern Tryz.prog 36 _ (ReflectliteValue.methodAny (ReflectliteValue.valueError "reflectlite.Value.Type" 0) (fun t _ _ _ => ReflectliteType.toType t)) Tryz.func36 (by kernel_rfl) (by kernel_rfl) (by kernel_rfl) (by kernel_rfl)
  have h37 := @run_callFunc_extern Tryz.prog 37 _ (ReflectliteValue.method (ReflectliteValue.valueError "reflectlite.Value.IsNil" 0) ReflectliteValue.isNil) Tryz.func37 (by kernel_rfl) (by kernel_rfl) (by kernel_rfl) (by kernel_rfl)
  have h131 := @run_callFunc_extern Tryz.prog 131 _ (ReflectliteType.abiMethod fun t => do pure (.int .u8 (← Rtype.kind t))) Tryz.func131 (by kernel_rfl) (by kernel_rfl) (by kernel_rfl) (by kernel_rfl)
  have h150 := @run_callFunc_extern Tryz.prog 150 _ (ReflectliteType.method ReflectliteType.elem) Tryz.func150 (by kernel_rfl) (by kernel_rfl) (by kernel_rfl) (by kernel_rfl)
  have h151 := @run_callFunc_extern Tryz.prog 151 _ (ReflectliteType.relation "Implements" ReflectliteType.implements_) Tryz.func151 (by kernel_rfl) (by kernel_rfl) (by kernel_rfl) (by kernel_rfl)
  have h44 := @run_callFunc_extern Tryz.prog 44 _ ReflectliteType.typeOf Tryz.func44 (by kernel_rfl) (by kernel_rfl) (by kernel_rfl) (by kernel_rfl)
  have h148 := @run_callFunc_extern Tryz.prog 148 _ (ReflectliteType.relation "AssignableTo" ReflectliteType.assignableTo) Tryz.func148 (by kernel_rfl) (by kernel_rfl) (by kernel_rfl) (by kernel_rfl)
  have h45 := @run_callFunc_extern Tryz.prog 45 _ (ReflectliteValue.method (ReflectliteValue.valueError "reflectlite.Value.Elem" 0) ReflectliteValue.elem) Tryz.func45 (by kernel_rfl) (by kernel_rfl) (by kernel_rfl) (by kernel_rfl)
  have h46 := @run_callFunc_extern Tryz.prog 46 _ ReflectliteValue.set Tryz.func46 (by kernel_rfl) (by kernel_rfl) (by kernel_rfl) (by kernel_rfl)
  have v74 := valueOf74
  have tO := typeOf74
  have mA := methodAssignableTo
  have a74 := assignable74
  have f6 := valueOf77
  have f7 := type77
  have mK := methodKind
  have mE := methodElem
  have mI := methodImplements
  have k77 := kind77
  have k74 := kind74
  have e77 := elem77
  have i74 := implements74
  have n8 := isNil77 ⟨w.heap.size, 0, none⟩ t ((w.alloc (.cells #[.pointer (some t)] 77)).alloc (.cells #[.pointer (some ⟨16, 77, none⟩), .pointer (some ⟨w.heap.size, 0, none⟩), .int .u64 150] 93)) (by simp)
  have hlt : 2 < w.heap.size := by
    rcases Nat.lt_or_ge 2 w.heap.size with h | h
    · exact h
    · exact absurd hg (by unfold Handle; simp [World.cell?, Array.getElem?_eq_none h])
  have hg2 : ((w.alloc (.cells #[.pointer (some t)] 77)).alloc (.cells #[.pointer (some ⟨16, 77, none⟩), .pointer (some ⟨w.heap.size, 0, none⟩), .int .u64 150] 93)).cell? ⟨2, 0, none⟩ = some (.iface 111 (.agg #[.pointer (some ⟨16, 42, none⟩)])) := by
    rw [World.cell?_alloc_lt _ _ ⟨2, 0, none⟩ (by simp; omega), World.cell?_alloc_lt _ _ ⟨2, 0, none⟩ hlt]; exact hg
  have htl : t.block < w.heap.size := World.block_lt_of_cell? w t ht0
  have el := elemV77 ⟨w.heap.size, 0, none⟩ t (((w.alloc (.cells #[.pointer (some t)] 77)).alloc (.cells #[.pointer (some ⟨16, 77, none⟩), .pointer (some ⟨w.heap.size, 0, none⟩), .int .u64 150] 93)).alloc (.cells #[.pointer (some ⟨16, 77, none⟩), .pointer (some ⟨w.heap.size, 0, none⟩), .int .u64 150] 93)) (by rw [World.cell?_alloc_lt _ _ ⟨w.heap.size, 0, none⟩ (by simp; omega)]; simp)
  have st := set74 t ⟨w.heap.size + 1 + 1 + 1, 0, none⟩ s old ((((w.alloc (.cells #[.pointer (some t)] 77)).alloc (.cells #[.pointer (some ⟨16, 77, none⟩), .pointer (some ⟨w.heap.size, 0, none⟩), .int .u64 150] 93)).alloc (.cells #[.pointer (some ⟨16, 77, none⟩), .pointer (some ⟨w.heap.size, 0, none⟩), .int .u64 150] 93)).alloc (.cells #[.string s] 74))
    (by rw [World.cell?_alloc_at _ _ _ _ (by simp)]; rfl)
    (by rw [World.cell?_alloc_lt _ _ t (by simp; omega), World.cell?_alloc_lt _ _ t (by simp; omega), World.cell?_alloc_lt _ _ t (by simp; omega), World.cell?_alloc_lt _ _ t htl]; exact ht0)
    (by rw [World.frozen?_alloc_old _ _ t (by simp; omega), World.frozen?_alloc_old _ _ t (by simp; omega), World.frozen?_alloc_old _ _ t (by simp; omega), World.frozen?_alloc_old _ _ t (Nat.ne_of_lt htl)]; exact hf0)
  clear hg
  go_enter Tryz.func22, Tryz.ntmps22
  go_wp2
  refine wp_loop_rounds 1 ?_
  rw [rounds_succ]
  go_wp2
  go_ret
  exact ⟨rfl, Kept.setCell (S := fun k => k = t.block) (p := t) (((((Kept.refl _ w).alloc _).alloc _).alloc _).alloc _) rfl _⟩

end Go.Proofs.YtinfkihnedpdnaaGreatDoor
