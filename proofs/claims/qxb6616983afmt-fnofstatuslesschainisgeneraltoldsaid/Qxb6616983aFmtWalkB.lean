import Derived.Test.Qxb6616983aFmtWalkA
namespace Go.Proofs.Qxb6616983aFmt
open Go.RowKit Go.Extern.Stop Go.Stop Go.Extern
set_option linter.unusedVariables false

theorem handle28 : typeHandle Tryf.prog 28 = .pointer (some ⟨1, 28, none⟩) := by kernel_rfl
theorem typeOf47 (v : Value) (w : World) : (ReflectliteType.typeOf #[.iface 47 v]).run Tryf.prog w = .ok (.iface 53 (.agg #[.pointer (some ⟨1, 47, none⟩)])) w := by kernel_rfl
theorem typeOf51 (v : Value) (w : World) : (ReflectliteType.typeOf #[.iface 51 v]).run Tryf.prog w = .ok (.iface 53 (.agg #[.pointer (some ⟨1, 51, none⟩)])) w := by kernel_rfl
theorem assignable47 (w : World) : (ReflectliteType.relation "AssignableTo" ReflectliteType.assignableTo #[.agg #[.pointer (some ⟨1, 47, none⟩)], .iface 53 (.agg #[.pointer (some ⟨1, 28, none⟩)])]).run Tryf.prog w = .ok (.bool false) w := by kernel_rfl
theorem assignable51 (w : World) : (ReflectliteType.relation "AssignableTo" ReflectliteType.assignableTo #[.agg #[.pointer (some ⟨1, 51, none⟩)], .iface 53 (.agg #[.pointer (some ⟨1, 28, none⟩)])]).run Tryf.prog w = .ok (.bool false) w := by kernel_rfl
theorem noAs47 (v : Value) (xT : TypeId) (w : World) : (Instr.typeAssert (.iface 47 v) xT 58 true).run Tryf.prog w = .ok (.tuple #[.nilIface, .bool false]) w := run_typeAssert_lacksB Tryf.underlying58 (by kernel_rfl) (by kernel_rfl) v xT w
theorem noAs51 (v : Value) (xT : TypeId) (w : World) : (Instr.typeAssert (.iface 51 v) xT 58 true).run Tryf.prog w = .ok (.tuple #[.nilIface, .bool false]) w := run_typeAssert_lacksB Tryf.underlying58 (by kernel_rfl) (by kernel_rfl) v xT w
theorem noUn47 (v : Value) (xT : TypeId) (w : World) : (Instr.typeAssert (.iface 47 v) xT 61 true).run Tryf.prog w = .ok (.tuple #[.nilIface, .bool false]) w := run_typeAssert_lacksB Tryf.underlying61 (by kernel_rfl) (by kernel_rfl) v xT w
theorem noUns47 (v : Value) (xT : TypeId) (w : World) : (Instr.typeAssert (.iface 47 v) xT 63 true).run Tryf.prog w = .ok (.tuple #[.nilIface, .bool false]) w := run_typeAssert_lacksB Tryf.underlying63 (by kernel_rfl) (by kernel_rfl) v xT w
theorem hasUn51 (v : Value) (xT : TypeId) (w : World) : (Instr.typeAssert (.iface 51 v) xT 61 true).run Tryf.prog w = .ok (.tuple #[.iface 51 v, .bool true]) w := run_typeAssert_hasB Tryf.underlying61 (by kernel_rfl) v xT w

theorem mAssignable (h : Value) (w : World) : (Go.method 198 53 (.agg #[h]) "AssignableTo").run Tryf.prog w = .ok (44, .agg #[h]) w := by kernel_rfl
theorem mKind (h : Value) (w : World) : (Go.method 198 53 (.agg #[h]) "Kind").run Tryf.prog w = .ok (33, h) w := by kernel_rfl
theorem mElem (h : Value) (w : World) : (Go.method 198 53 (.agg #[h]) "Elem").run Tryf.prog w = .ok (46, .agg #[h]) w := by kernel_rfl
theorem mImplements (h : Value) (w : World) : (Go.method 198 53 (.agg #[h]) "Implements").run Tryf.prog w = .ok (47, .agg #[h]) w := by kernel_rfl
theorem mUnwrap (h : Addr) (w : World) : (Go.method 198 51 (.pointer (some h)) "Unwrap").run Tryf.prog w = .ok (42, .pointer (some h)) w := by kernel_rfl
theorem valueOf30 (t : Addr) (w : World) : (ReflectliteValue.unpack (.iface 30 (.pointer (some t)))).run Tryf.prog w
    = .ok (.agg #[.pointer (some ⟨1, 30, none⟩), .pointer (some ⟨w.heap.size, 0, none⟩), .int .u64 150]) (w.alloc (.cells #[.pointer (some t)] 30)) := by kernel_rfl
theorem type30 (a : Addr) (w : World) : (ReflectliteValue.methodAny (ReflectliteValue.valueError "reflectlite.Value.Type" 0) (fun t _ _ _ => ReflectliteType.toType t) #[.agg #[.pointer (some ⟨1, 30, none⟩), .pointer (some a), .int .u64 150]]).run Tryf.prog w
    = .ok (.iface 53 (.agg #[.pointer (some ⟨1, 30, none⟩)])) w := by kernel_rfl
theorem kind30 (w : World) : ((ReflectliteType.abiMethod fun t => (fun a : Nat => Value.int IntKind.u8 (a : Int)) <$> Rtype.kind t) #[.pointer (some ⟨1, 30, none⟩)]).run Tryf.prog w = .ok (.int .u8 22) w := by kernel_rfl
theorem kind28 (w : World) : ((ReflectliteType.abiMethod fun t => (fun a : Nat => Value.int IntKind.u8 (a : Int)) <$> Rtype.kind t) #[.pointer (some ⟨1, 28, none⟩)]).run Tryf.prog w = .ok (.int .u8 22) w := by kernel_rfl
theorem rlm (z : Sem Value) (f : TypeId → Addr → Nat → Nat → Sem Value) (v : Value) :
    ReflectliteValue.method z f #[v] = (do match ← ReflectliteValue.parts v with | none => z | some (t, a, fl) => f t a fl (fl % 32)) := rfl
theorem parts30 (a : Addr) (w : World) : (ReflectliteValue.parts (.agg #[.pointer (some ⟨1, 30, none⟩), .pointer (some a), .int .u64 150])).run Tryf.prog w = .ok (some (30, a, 150)) w := by kernel_rfl
/-- (Value).IsNil at the Value of a **Error that is not nil. -/
theorem isNil30 (a p : Addr) (W : World) (ha : W.cell? a = some (.pointer (some p))) :
    (ReflectliteValue.method (ReflectliteValue.valueError "reflectlite.Value.IsNil" 0) ReflectliteValue.isNil #[.agg #[.pointer (some ⟨1, 30, none⟩), .pointer (some a), .int .u64 150]]).run Tryf.prog W = .ok (.bool false) W := by
  rw [rlm]
  simp only [Sem.run_bind, parts30, Result.andThen]
  simp [ReflectliteValue.isNil, loadVar, isAgg, underlying, Tryf.underlying30, ha, Result.andThen]
theorem elem30 (w : World) : (ReflectliteType.method ReflectliteType.elem #[.agg #[.pointer (some ⟨1, 30, none⟩)]]).run Tryf.prog w = .ok (.iface 53 (.agg #[.pointer (some ⟨1, 28, none⟩)])) w := by kernel_rfl
theorem implements28 (w : World) : (ReflectliteType.relation "Implements" ReflectliteType.implements_ #[.agg #[.pointer (some ⟨1, 28, none⟩)], .iface 53 (.agg #[.pointer (some ⟨1, 25, none⟩)])]).run Tryf.prog w = .ok (.bool true) w := by kernel_rfl
theorem ext11 : ∀ (args : Array Value) (w : World), (callFunc 11 args).run Tryf.prog w = ((ReflectliteValue.unpack (args.getD 0 (.tuple #[]))).run Tryf.prog w).andThen fun v w' => .ok (.value v) w' :=
  @run_callFunc_extern Tryf.prog 11 _ (fun args => ReflectliteValue.unpack (args.getD 0 (.tuple #[]))) Tryf.func11 (by kernel_rfl) (by kernel_rfl) (by kernel_rfl) (by kernel_rfl)
theorem ext12 : ∀ (args : Array Value) (w : World), (callFunc 12 args).run Tryf.prog w = (((ReflectliteValue.methodAny (ReflectliteValue.valueError "reflectlite.Value.Type" 0) (fun t _ _ _ => ReflectliteType.toType t)) args).run Tryf.prog w).andThen fun v w' => .ok (.value v) w' :=
  @run_callFunc_extern Tryf.prog 12 _ (ReflectliteValue.methodAny (ReflectliteValue.valueError "reflectlite.Value.Type" 0) (fun t _ _ _ => ReflectliteType.toType t)) Tryf.func12 (by kernel_rfl) (by kernel_rfl) (by kernel_rfl) (by kernel_rfl)
theorem ext13 : ∀ (args : Array Value) (w : World), (callFunc 13 args).run Tryf.prog w = (((ReflectliteValue.method (ReflectliteValue.valueError "reflectlite.Value.IsNil" 0) ReflectliteValue.isNil) args).run Tryf.prog w).andThen fun v w' => .ok (.value v) w' :=
  @run_callFunc_extern Tryf.prog 13 _ (ReflectliteValue.method (ReflectliteValue.valueError "reflectlite.Value.IsNil" 0) ReflectliteValue.isNil) Tryf.func13 (by kernel_rfl) (by kernel_rfl) (by kernel_rfl) (by kernel_rfl)
theorem ext33 : ∀ (args : Array Value) (w : World), (callFunc 33 args).run Tryf.prog w = (((ReflectliteType.abiMethod fun t => (fun a : Nat => Value.int IntKind.u8 (a : Int)) <$> Rtype.kind t) args).run Tryf.prog w).andThen fun v w' => .ok (.value v) w' :=
  @run_callFunc_extern Tryf.prog 33 _ (ReflectliteType.abiMethod fun t => do pure (.int .u8 (← Rtype.kind t))) Tryf.func33 (by kernel_rfl) (by kernel_rfl) (by kernel_rfl) (by kernel_rfl)
theorem ext46 : ∀ (args : Array Value) (w : World), (callFunc 46 args).run Tryf.prog w = ((ReflectliteType.method ReflectliteType.elem args).run Tryf.prog w).andThen fun v w' => .ok (.value v) w' :=
  @run_callFunc_extern Tryf.prog 46 _ (ReflectliteType.method ReflectliteType.elem) Tryf.func46 (by kernel_rfl) (by kernel_rfl) (by kernel_rfl) (by kernel_rfl)
theorem ext47 : ∀ (args : Array Value) (w : World), (callFunc 47 args).run Tryf.prog w = ((ReflectliteType.relation "Implements" ReflectliteType.implements_ args).run Tryf.prog w).andThen fun v w' => .ok (.value v) w' :=
  @run_callFunc_extern Tryf.prog 47 _ (ReflectliteType.relation "Implements" ReflectliteType.implements_) Tryf.func47 (by kernel_rfl) (by kernel_rfl) (by kernel_rfl) (by kernel_rfl)
theorem ext16 : ∀ (args : Array Value) (w : World), (callFunc 16 args).run Tryf.prog w = ((ReflectliteType.typeOf args).run Tryf.prog w).andThen fun v w' => .ok (.value v) w' :=
  @run_callFunc_extern Tryf.prog 16 _ ReflectliteType.typeOf Tryf.func16 (by kernel_rfl) (by kernel_rfl) (by kernel_rfl) (by kernel_rfl)
theorem ext44 : ∀ (args : Array Value) (w : World), (callFunc 44 args).run Tryf.prog w = ((ReflectliteType.relation "AssignableTo" ReflectliteType.assignableTo args).run Tryf.prog w).andThen fun v w' => .ok (.value v) w' :=
  @run_callFunc_extern Tryf.prog 44 _ (ReflectliteType.relation "AssignableTo" ReflectliteType.assignableTo) Tryf.func44 (by kernel_rfl) (by kernel_rfl) (by kernel_rfl) (by kernel_rfl)
end Go.Proofs.Qxb6616983aFmt
