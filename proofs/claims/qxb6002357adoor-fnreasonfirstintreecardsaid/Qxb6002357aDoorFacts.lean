/-
  CLOSED FACTS ON THE MODEL's ENTRIES FOR internal/reflectlite AT THIS PROGRAM's TYPES: 25: error · 31: zzTree · 32: reason · 34: *reason · 37: zzLeaf · 39: zzWrap · 43: reflectlite.Value · 46: reflectlite.Type · 54: reflectlite.rtype.
-/
import Derived.Test.Qxb6002357aDoorProg
import Derived.WalkKit
import Derived.LaidEql
import Derived.Stop.Asserts
import Derived.RowKitTokens
namespace Go.Proofs.Qxb6002357aDoor
open Go.RowKit Go.Extern.Stop Go.Stop Go.Extern

theorem as_nil (t : Value) (w : World) :
    Calls Tryd.prog 9 #[.nilIface, t] w fun e w' => e = .returned (.bool false) ∧ w' = w := by
  go_enter Tryd.func9, Tryd.ntmps9
  go_wp2
  go_ret
  exact ⟨rfl, rfl⟩

theorem valueOf34 (t : Addr) (w : World) : (ReflectliteValue.unpack (.iface 34 (.pointer (some t)))).run Tryd.prog w
    = .ok (.agg #[.pointer (some ⟨1, 34, none⟩), .pointer (some ⟨w.heap.size, 0, none⟩), .int .u64 150]) (w.alloc (.cells #[.pointer (some t)] 34)) := by kernel_rfl
theorem type34 (a : Addr) (w : World) : (ReflectliteValue.methodAny (ReflectliteValue.valueError "reflectlite.Value.Type" 0) (fun t _ _ _ => ReflectliteType.toType t) #[.agg #[.pointer (some ⟨1, 34, none⟩), .pointer (some a), .int .u64 150]]).run Tryd.prog w
    = .ok (.iface 54 (.agg #[.pointer (some ⟨1, 34, none⟩)])) w := by kernel_rfl
theorem kind34 (w : World) : ((ReflectliteType.abiMethod fun t => (fun a : Nat => Value.int IntKind.u8 (a : Int)) <$> Rtype.kind t) #[.pointer (some ⟨1, 34, none⟩)]).run Tryd.prog w = .ok (.int .u8 22) w := by kernel_rfl
theorem kind32 (w : World) : ((ReflectliteType.abiMethod fun t => (fun a : Nat => Value.int IntKind.u8 (a : Int)) <$> Rtype.kind t) #[.pointer (some ⟨1, 32, none⟩)]).run Tryd.prog w = .ok (.int .u8 24) w := by kernel_rfl
theorem elem34 (w : World) : (ReflectliteType.method ReflectliteType.elem #[.agg #[.pointer (some ⟨1, 34, none⟩)]]).run Tryd.prog w = .ok (.iface 54 (.agg #[.pointer (some ⟨1, 32, none⟩)])) w := by kernel_rfl
theorem implements32 (w : World) : (ReflectliteType.relation "Implements" ReflectliteType.implements_ #[.agg #[.pointer (some ⟨1, 32, none⟩)], .iface 54 (.agg #[.pointer (some ⟨1, 25, none⟩)])]).run Tryd.prog w = .ok (.bool true) w := by kernel_rfl
theorem typeOf32 (v : Value) (w : World) : (ReflectliteType.typeOf #[.iface 32 v]).run Tryd.prog w = .ok (.iface 54 (.agg #[.pointer (some ⟨1, 32, none⟩)])) w := by kernel_rfl
theorem typeOf37 (v : Value) (w : World) : (ReflectliteType.typeOf #[.iface 37 v]).run Tryd.prog w = .ok (.iface 54 (.agg #[.pointer (some ⟨1, 37, none⟩)])) w := by kernel_rfl
theorem typeOf39 (v : Value) (w : World) : (ReflectliteType.typeOf #[.iface 39 v]).run Tryd.prog w = .ok (.iface 54 (.agg #[.pointer (some ⟨1, 39, none⟩)])) w := by kernel_rfl
theorem typeOf31 (v : Value) (w : World) : (ReflectliteType.typeOf #[.iface 31 v]).run Tryd.prog w = .ok (.iface 54 (.agg #[.pointer (some ⟨1, 31, none⟩)])) w := by kernel_rfl
theorem assignable32 (w : World) : (ReflectliteType.relation "AssignableTo" ReflectliteType.assignableTo #[.agg #[.pointer (some ⟨1, 32, none⟩)], .iface 54 (.agg #[.pointer (some ⟨1, 32, none⟩)])]).run Tryd.prog w = .ok (.bool true) w := by kernel_rfl
theorem assignable37 (w : World) : (ReflectliteType.relation "AssignableTo" ReflectliteType.assignableTo #[.agg #[.pointer (some ⟨1, 37, none⟩)], .iface 54 (.agg #[.pointer (some ⟨1, 32, none⟩)])]).run Tryd.prog w = .ok (.bool false) w := by kernel_rfl
theorem assignable39 (w : World) : (ReflectliteType.relation "AssignableTo" ReflectliteType.assignableTo #[.agg #[.pointer (some ⟨1, 39, none⟩)], .iface 54 (.agg #[.pointer (some ⟨1, 32, none⟩)])]).run Tryd.prog w = .ok (.bool false) w := by kernel_rfl
theorem assignable31 (w : World) : (ReflectliteType.relation "AssignableTo" ReflectliteType.assignableTo #[.agg #[.pointer (some ⟨1, 31, none⟩)], .iface 54 (.agg #[.pointer (some ⟨1, 32, none⟩)])]).run Tryd.prog w = .ok (.bool false) w := by kernel_rfl
theorem valueOf32 (s : ByteArray) (w : World) : (ReflectliteValue.unpack (.iface 32 (.string s))).run Tryd.prog w
    = .ok (.agg #[.pointer (some ⟨1, 32, none⟩), .pointer (some ⟨w.heap.size, 0, none⟩), .int .u64 152]) (w.alloc (.cells #[.string s] 32)) := by kernel_rfl

theorem methodKind (h : Value) (w : World) : (Go.method 197 54 (.agg #[h]) "Kind").run Tryd.prog w = .ok (32, h) w := by kernel_rfl
theorem methodElem (h : Value) (w : World) : (Go.method 197 54 (.agg #[h]) "Elem").run Tryd.prog w = .ok (47, .agg #[h]) w := by kernel_rfl
theorem methodImplements (h : Value) (w : World) : (Go.method 197 54 (.agg #[h]) "Implements").run Tryd.prog w = .ok (48, .agg #[h]) w := by kernel_rfl
theorem methodAssignableTo (h : Value) (w : World) : (Go.method 197 54 (.agg #[h]) "AssignableTo").run Tryd.prog w = .ok (45, .agg #[h]) w := by kernel_rfl
theorem methodUnwrap39 (v : Value) (w : World) : (Go.method 197 39 v "Unwrap").run Tryd.prog w = .ok (40, v) w := by kernel_rfl
theorem methodUnwrap31 (v : Value) (w : World) : (Go.method 197 31 v "Unwrap").run Tryd.prog w = .ok (36, v) w := by kernel_rfl

/-! ### The entries themselves -/
theorem ext11 (args : Array Value) (w : World) : (callFunc 11 args).run Tryd.prog w = (((fun args => ReflectliteValue.unpack (args.getD 0 (.tuple #[]))) : Array Value → Sem Value) args |>.run Tryd.prog w).andThen fun v w1 => .ok (.value v) w1 := run_callFunc_extern (e := fun args => ReflectliteValue.unpack (args.getD 0 (.tuple #[]))) Tryd.func11 (by kernel_rfl) (by kernel_rfl) (by kernel_rfl) (by kernel_rfl) args w
theorem ext12 (args : Array Value) (w : World) : (callFunc 12 args).run Tryd.prog w = (((ReflectliteValue.methodAny (ReflectliteValue.valueError "reflectlite.Value.Type" 0) (fun t _ _ _ => ReflectliteType.toType t)) : Array Value → Sem Value) args |>.run Tryd.prog w).andThen fun v w1 => .ok (.value v) w1 := run_callFunc_extern Tryd.func12 (by kernel_rfl) (by kernel_rfl) (by kernel_rfl) (by kernel_rfl) args w
theorem ext13 (args : Array Value) (w : World) : (callFunc 13 args).run Tryd.prog w = (((ReflectliteValue.method (ReflectliteValue.valueError "reflectlite.Value.IsNil" 0) ReflectliteValue.isNil) : Array Value → Sem Value) args |>.run Tryd.prog w).andThen fun v w1 => .ok (.value v) w1 := run_callFunc_extern Tryd.func13 (by kernel_rfl) (by kernel_rfl) (by kernel_rfl) (by kernel_rfl) args w
theorem ext15 (args : Array Value) (w : World) : (callFunc 15 args).run Tryd.prog w = ((ReflectliteType.typeOf : Array Value → Sem Value) args |>.run Tryd.prog w).andThen fun v w1 => .ok (.value v) w1 := run_callFunc_extern Tryd.func15 (by kernel_rfl) (by kernel_rfl) (by kernel_rfl) (by kernel_rfl) args w
theorem ext16 (args : Array Value) (w : World) : (callFunc 16 args).run Tryd.prog w = (((ReflectliteValue.method (ReflectliteValue.valueError "reflectlite.Value.Elem" 0) ReflectliteValue.elem) : Array Value → Sem Value) args |>.run Tryd.prog w).andThen fun v w1 => .ok (.value v) w1 := run_callFunc_extern Tryd.func16 (by kernel_rfl) (by kernel_rfl) (by kernel_rfl) (by kernel_rfl) args w
theorem ext17 (args : Array Value) (w : World) : (callFunc 17 args).run Tryd.prog w = ((ReflectliteValue.set : Array Value → Sem Value) args |>.run Tryd.prog w).andThen fun v w1 => .ok (.value v) w1 := run_callFunc_extern Tryd.func17 (by kernel_rfl) (by kernel_rfl) (by kernel_rfl) (by kernel_rfl) args w
theorem ext32 (args : Array Value) (w : World) : (callFunc 32 args).run Tryd.prog w = (((ReflectliteType.abiMethod fun t => do pure (.int .u8 (← Rtype.kind t))) : Array Value → Sem Value) args |>.run Tryd.prog w).andThen fun v w1 => .ok (.value v) w1 := run_callFunc_extern Tryd.func32 (by kernel_rfl) (by kernel_rfl) (by kernel_rfl) (by kernel_rfl) args w
theorem ext45 (args : Array Value) (w : World) : (callFunc 45 args).run Tryd.prog w = (((ReflectliteType.relation "AssignableTo" ReflectliteType.assignableTo) : Array Value → Sem Value) args |>.run Tryd.prog w).andThen fun v w1 => .ok (.value v) w1 := run_callFunc_extern Tryd.func45 (by kernel_rfl) (by kernel_rfl) (by kernel_rfl) (by kernel_rfl) args w
theorem ext47 (args : Array Value) (w : World) : (callFunc 47 args).run Tryd.prog w = (((ReflectliteType.method ReflectliteType.elem) : Array Value → Sem Value) args |>.run Tryd.prog w).andThen fun v w1 => .ok (.value v) w1 := run_callFunc_extern Tryd.func47 (by kernel_rfl) (by kernel_rfl) (by kernel_rfl) (by kernel_rfl) args w
theorem ext48 (args : Array Value) (w : World) : (callFunc 48 args).run Tryd.prog w = (((ReflectliteType.relation "Implements" ReflectliteType.implements_) : Array Value → Sem Value) args |>.run Tryd.prog w).andThen fun v w1 => .ok (.value v) w1 := run_callFunc_extern Tryd.func48 (by kernel_rfl) (by kernel_rfl) (by kernel_rfl) (by kernel_rfl) args w

/-! ### THE ENTRIES THAT READ OR WRITE MEMORY -/
theorem parts34 (a : Addr) (w : World) : (ReflectliteValue.parts (.agg #[.pointer (some ⟨1, 34, none⟩), .pointer (some a), .int .u64 150])).run Tryd.prog w = .ok (some (34, a, 150)) w := by kernel_rfl
theorem isNil34 (a p : Addr) (W : World) (ha : W.cell? a = some (.pointer (some p))) :
    (ReflectliteValue.method (ReflectliteValue.valueError "reflectlite.Value.IsNil" 0) ReflectliteValue.isNil #[.agg #[.pointer (some ⟨1, 34, none⟩), .pointer (some a), .int .u64 150]]).run Tryd.prog W = .ok (.bool false) W := by
  show Sem.run Tryd.prog (ReflectliteValue.parts _ >>= _) W = _
  simp only [Array.getLit, List.getElem_toArray, List.getElem_cons_zero, Sem.run_bind, parts34, Result.andThen]
  simp [ReflectliteValue.isNil, loadVar, isAgg, underlying, Tryd.underlying34, ha, Result.andThen]
theorem elemOf34 (w : World) : (Rtype.elem? 34).run Tryd.prog w = .ok (some 32) w := by kernel_rfl
theorem mk32 (p : Addr) (w : World) : (ReflectliteValue.mk 32 p ReflectliteValue.flagAddr).run Tryd.prog w = .ok (.agg #[.pointer (some ⟨1, 32, none⟩), .pointer (some p), .int .u64 408]) w := by kernel_rfl
theorem elemV34 (a p : Addr) (W : World) (ha : W.cell? a = some (.pointer (some p))) :
    (ReflectliteValue.method (ReflectliteValue.valueError "reflectlite.Value.Elem" 0) ReflectliteValue.elem #[.agg #[.pointer (some ⟨1, 34, none⟩), .pointer (some a), .int .u64 150]]).run Tryd.prog W
      = .ok (.agg #[.pointer (some ⟨1, 32, none⟩), .pointer (some p), .int .u64 408]) W := by
  show Sem.run Tryd.prog (ReflectliteValue.parts _ >>= _) W = _
  simp only [Array.getLit, List.getElem_toArray, List.getElem_cons_zero, Sem.run_bind, parts34, Result.andThen]
  simp [ReflectliteValue.elem, loadVar, isAgg, underlying, Tryd.underlying34, ha, Result.andThen, elemOf34, mk32]
theorem parts32a (a : Addr) (w : World) : (ReflectliteValue.parts (.agg #[.pointer (some ⟨1, 32, none⟩), .pointer (some a), .int .u64 408])).run Tryd.prog w = .ok (some (32, a, 408)) w := by kernel_rfl
theorem parts32 (a : Addr) (w : World) : (ReflectliteValue.parts (.agg #[.pointer (some ⟨1, 32, none⟩), .pointer (some a), .int .u64 152])).run Tryd.prog w = .ok (some (32, a, 152)) w := by kernel_rfl
theorem direct32 (w : World) : (Rtype.directlyAssignable 32 32).run Tryd.prog w = .ok true w := by kernel_rfl
/-- (Value).Set: the reason variable at 'ta' gets what the Value's own variable 'b' holds. -/
theorem set32 (ta b : Addr) (s : ByteArray) (old : Value) (W : World) (hb : W.cell? b = some (.string s)) (ht : W.cell? ta = some old) (hf : W.frozen? ta = false) :
    (ReflectliteValue.set #[.agg #[.pointer (some ⟨1, 32, none⟩), .pointer (some ta), .int .u64 408], .agg #[.pointer (some ⟨1, 32, none⟩), .pointer (some b), .int .u64 152]]).run Tryd.prog W
      = .ok (.tuple #[]) (W.setCell ta (.string s)) := by
  show Sem.run Tryd.prog (ReflectliteValue.parts _ >>= _) W = _
  simp only [Array.getLit, List.getElem_toArray, List.getElem_cons_zero, List.getElem_cons_succ, Sem.run_bind, parts32a, parts32, Result.andThen]
  simp [ReflectliteValue.flagAddr, loadVar, isAgg, underlying, Tryd.underlying32, hb, Result.andThen, direct32, storeVar, Value.cells, storeCells, Addr.add]
  rw [run_store Tryd.prog W ta _ _ (by rfl)]
  simp [ht, hf]

/-! ### The type assertions: 59: interface { As(any) bool } · 62: interface { Unwrap() error } · 64: interface { Unwrap() []error } -/
theorem noAs37 (v : Value) (xT : TypeId) (w : World) : (Instr.typeAssert (.iface 37 v) xT 59 true).run Tryd.prog w = .ok (.tuple #[.nilIface, .bool false]) w := run_typeAssert_lacksB Tryd.underlying59 (by kernel_rfl) (by kernel_rfl) v xT w
theorem noAs39 (v : Value) (xT : TypeId) (w : World) : (Instr.typeAssert (.iface 39 v) xT 59 true).run Tryd.prog w = .ok (.tuple #[.nilIface, .bool false]) w := run_typeAssert_lacksB Tryd.underlying59 (by kernel_rfl) (by kernel_rfl) v xT w
theorem noAs31 (v : Value) (xT : TypeId) (w : World) : (Instr.typeAssert (.iface 31 v) xT 59 true).run Tryd.prog w = .ok (.tuple #[.nilIface, .bool false]) w := run_typeAssert_lacksB Tryd.underlying59 (by kernel_rfl) (by kernel_rfl) v xT w
theorem noUn37 (v : Value) (xT : TypeId) (w : World) : (Instr.typeAssert (.iface 37 v) xT 62 true).run Tryd.prog w = .ok (.tuple #[.nilIface, .bool false]) w := run_typeAssert_lacksB Tryd.underlying62 (by kernel_rfl) (by kernel_rfl) v xT w
theorem noUn31 (v : Value) (xT : TypeId) (w : World) : (Instr.typeAssert (.iface 31 v) xT 62 true).run Tryd.prog w = .ok (.tuple #[.nilIface, .bool false]) w := run_typeAssert_lacksB Tryd.underlying62 (by kernel_rfl) (by kernel_rfl) v xT w
theorem noMany37 (v : Value) (xT : TypeId) (w : World) : (Instr.typeAssert (.iface 37 v) xT 64 true).run Tryd.prog w = .ok (.tuple #[.nilIface, .bool false]) w := run_typeAssert_lacksB Tryd.underlying64 (by kernel_rfl) (by kernel_rfl) v xT w
theorem hasUn39 (v : Value) (xT : TypeId) (w : World) : (Instr.typeAssert (.iface 39 v) xT 62 true).run Tryd.prog w = .ok (.tuple #[.iface 39 v, .bool true]) w := run_typeAssert_hasB Tryd.underlying62 (by kernel_rfl) v xT w
theorem hasMany31 (v : Value) (xT : TypeId) (w : World) : (Instr.typeAssert (.iface 31 v) xT 64 true).run Tryd.prog w = .ok (.tuple #[.iface 31 v, .bool true]) w := run_typeAssert_hasB Tryd.underlying64 (by kernel_rfl) v xT w
end Go.Proofs.Qxb6002357aDoor
