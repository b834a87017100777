/-
  errors.As at the target *keyError: the closed facts of this dump on the model's entries for internal/reflectlite, after the guide's Derived/Test/ToyasAs.lean, at this dump's numbers: 42: *keyError, 57: **keyError, 25: error, 75: reflectlite's rtype, 64: reflectlite's Value, 45: *zzs0416cwrap, 53: *errors.errorString; 2: how many package-level variables the dump has.
-/
import Derived.Test.YbulkhpaDoorProg
import Derived.WalkKit
import Derived.LaidEql
import Derived.Stop.Asserts
import Derived.RowKitTokens
namespace Go.Proofs.YbulkhpaDoor
open Go.RowKit Go.Extern.Stop Go.Stop Go.Extern

theorem valueOf57 (t : Addr) (w : World) : (ReflectliteValue.unpack (.iface 57 (.pointer (some t)))).run Ybad.prog w
    = .ok (.agg #[.pointer (some ⟨2, 57, none⟩), .pointer (some ⟨w.heap.size, 0, none⟩), .int .u64 150]) (w.alloc (.cells #[.pointer (some t)] 57)) := by kernel_rfl
theorem type57 (a : Addr) (w : World) : (ReflectliteValue.methodAny (ReflectliteValue.valueError "reflectlite.Value.Type" 0) (fun t _ _ _ => ReflectliteType.toType t) #[.agg #[.pointer (some ⟨2, 57, none⟩), .pointer (some a), .int .u64 150]]).run Ybad.prog w
    = .ok (.iface 75 (.agg #[.pointer (some ⟨2, 57, none⟩)])) w := by kernel_rfl
theorem methodKind (h : Value) (w : World) : (Go.method 224 75 (.agg #[h]) "Kind").run Ybad.prog w = .ok (40, h) w := by kernel_rfl
theorem kind57 (w : World) : ((ReflectliteType.abiMethod fun t => Functor.map (fun a : Nat => Value.int IntKind.u8 (a : Int)) (Rtype.kind t)) #[.pointer (some ⟨2, 57, none⟩)]).run Ybad.prog w = .ok (.int .u8 22) w := by kernel_rfl
theorem kind42 (w : World) : ((ReflectliteType.abiMethod fun t => Functor.map (fun a : Nat => Value.int IntKind.u8 (a : Int)) (Rtype.kind t)) #[.pointer (some ⟨2, 42, none⟩)]).run Ybad.prog w = .ok (.int .u8 22) w := by kernel_rfl

theorem rlm (z : Sem Value) (f : TypeId → Addr → Nat → Nat → Sem Value) (v : Value) :
    ReflectliteValue.method z f #[v] = (do match ← ReflectliteValue.parts v with | none => z | some (t, a, fl) => f t a fl (fl % 32)) := rfl
theorem parts57 (a : Addr) (w : World) : (ReflectliteValue.parts (.agg #[.pointer (some ⟨2, 57, none⟩), .pointer (some a), .int .u64 150])).run Ybad.prog w = .ok (some (57, a, 150)) w := by kernel_rfl
theorem isNil57 (a p : Addr) (W : World) (ha : W.cell? a = some (.pointer (some p))) :
    (ReflectliteValue.method (ReflectliteValue.valueError "reflectlite.Value.IsNil" 0) ReflectliteValue.isNil #[.agg #[.pointer (some ⟨2, 57, none⟩), .pointer (some a), .int .u64 150]]).run Ybad.prog W = .ok (.bool false) W := by
  rw [rlm]
  simp only [Sem.run_bind, parts57, Result.andThen]
  simp [ReflectliteValue.isNil, loadVar, isAgg, underlying, Ybad.underlying57, ha, Result.andThen]

theorem methodElem (h : Value) (w : World) : (Go.method 224 75 (.agg #[h]) "Elem").run Ybad.prog w = .ok (55, .agg #[h]) w := by kernel_rfl
theorem methodImplements (h : Value) (w : World) : (Go.method 224 75 (.agg #[h]) "Implements").run Ybad.prog w = .ok (56, .agg #[h]) w := by kernel_rfl
theorem methodAssignableTo (h : Value) (w : World) : (Go.method 224 75 (.agg #[h]) "AssignableTo").run Ybad.prog w = .ok (53, .agg #[h]) w := by kernel_rfl
theorem methodUnwrap (a : Addr) (w : World) : (Go.method 224 45 (.pointer (some a)) "Unwrap").run Ybad.prog w = .ok (47, .pointer (some a)) w := by kernel_rfl
theorem elem57 (w : World) : (ReflectliteType.method ReflectliteType.elem #[.agg #[.pointer (some ⟨2, 57, none⟩)]]).run Ybad.prog w = .ok (.iface 75 (.agg #[.pointer (some ⟨2, 42, none⟩)])) w := by kernel_rfl
theorem implements42 (w : World) : (ReflectliteType.relation "Implements" ReflectliteType.implements_ #[.agg #[.pointer (some ⟨2, 42, none⟩)], .iface 75 (.agg #[.pointer (some ⟨2, 25, none⟩)])]).run Ybad.prog w = .ok (.bool true) w := by kernel_rfl
theorem typeOf42 (v : Value) (w : World) : (ReflectliteType.typeOf #[.iface 42 v]).run Ybad.prog w = .ok (.iface 75 (.agg #[.pointer (some ⟨2, 42, none⟩)])) w := by kernel_rfl
theorem typeOf45 (v : Value) (w : World) : (ReflectliteType.typeOf #[.iface 45 v]).run Ybad.prog w = .ok (.iface 75 (.agg #[.pointer (some ⟨2, 45, none⟩)])) w := by kernel_rfl
theorem typeOf53 (v : Value) (w : World) : (ReflectliteType.typeOf #[.iface 53 v]).run Ybad.prog w = .ok (.iface 75 (.agg #[.pointer (some ⟨2, 53, none⟩)])) w := by kernel_rfl
theorem assignable42 (w : World) : (ReflectliteType.relation "AssignableTo" ReflectliteType.assignableTo #[.agg #[.pointer (some ⟨2, 42, none⟩)], .iface 75 (.agg #[.pointer (some ⟨2, 42, none⟩)])]).run Ybad.prog w = .ok (.bool true) w := by kernel_rfl
theorem assignable45 (w : World) : (ReflectliteType.relation "AssignableTo" ReflectliteType.assignableTo #[.agg #[.pointer (some ⟨2, 45, none⟩)], .iface 75 (.agg #[.pointer (some ⟨2, 42, none⟩)])]).run Ybad.prog w = .ok (.bool false) w := by kernel_rfl
theorem assignable53 (w : World) : (ReflectliteType.relation "AssignableTo" ReflectliteType.assignableTo #[.agg #[.pointer (some ⟨2, 53, none⟩)], .iface 75 (.agg #[.pointer (some ⟨2, 42, none⟩)])]).run Ybad.prog w = .ok (.bool false) w := by kernel_rfl
theorem valueOf42 (e : Addr) (w : World) : (ReflectliteValue.unpack (.iface 42 (.pointer (some e)))).run Ybad.prog w
    = .ok (.agg #[.pointer (some ⟨2, 42, none⟩), .pointer (some ⟨w.heap.size, 0, none⟩), .int .u64 150]) (w.alloc (.cells #[.pointer (some e)] 42)) := by kernel_rfl

theorem elemOf57 (w : World) : (Rtype.elem? 57).run Ybad.prog w = .ok (some 42) w := by kernel_rfl
theorem mk42 (p : Addr) (w : World) : (ReflectliteValue.mk 42 p ReflectliteValue.flagAddr).run Ybad.prog w = .ok (.agg #[.pointer (some ⟨2, 42, none⟩), .pointer (some p), .int .u64 406]) w := by kernel_rfl
theorem elemV57 (a p : Addr) (W : World) (ha : W.cell? a = some (.pointer (some p))) :
    (ReflectliteValue.method (ReflectliteValue.valueError "reflectlite.Value.Elem" 0) ReflectliteValue.elem #[.agg #[.pointer (some ⟨2, 57, none⟩), .pointer (some a), .int .u64 150]]).run Ybad.prog W
      = .ok (.agg #[.pointer (some ⟨2, 42, none⟩), .pointer (some p), .int .u64 406]) W := by
  rw [rlm]
  simp only [Sem.run_bind, parts57, Result.andThen]
  simp [ReflectliteValue.elem, loadVar, isAgg, underlying, Ybad.underlying57, ha, Result.andThen, elemOf57, mk42]
theorem parts42a (a : Addr) (w : World) : (ReflectliteValue.parts (.agg #[.pointer (some ⟨2, 42, none⟩), .pointer (some a), .int .u64 406])).run Ybad.prog w = .ok (some (42, a, 406)) w := by kernel_rfl
theorem parts42 (a : Addr) (w : World) : (ReflectliteValue.parts (.agg #[.pointer (some ⟨2, 42, none⟩), .pointer (some a), .int .u64 150])).run Ybad.prog w = .ok (some (42, a, 150)) w := by kernel_rfl
theorem direct42 (w : World) : (Rtype.directlyAssignable 42 42).run Ybad.prog w = .ok true w := by kernel_rfl
/-- (Value).Set laid open, its texts left as they are (after the guide's worked example) -/
theorem rls (v x : Value) : ∃ s1 s2 s3 s4 s5 : String, ReflectliteValue.set #[v, x] = (do
    let (some (dst, a, fl), some (src, b, _)) := (← ReflectliteValue.parts v, ← ReflectliteValue.parts x)
      | unsupported (.noEntry s1)
    if fl / ReflectliteValue.flagAddr % 2 == 0 then unsupported (.noEntry s2)
    let val ← loadVar src b
    if ← Rtype.directlyAssignable dst src then storeVar dst a val
    else if ← Rtype.implements dst src then
      if (← Rtype.kind src) == 20 then
        match val with
        | .nilIface => unsupported (.noEntry s3)
        | _ => storeVar dst a val
      else storeVar dst a (.iface src val)
    else panicString (s4 ++ (← Rtype.spelt src) ++ s5 ++ (← Rtype.spelt dst))
    pure (.tuple #[])) := ⟨_, _, _, _, _, rfl⟩
theorem set42 (ta b e : Addr) (old : Value) (W : World) (hb : W.cell? b = some (.pointer (some e))) (ht : W.cell? ta = some old) (hf : W.frozen? ta = false) :
    (ReflectliteValue.set #[.agg #[.pointer (some ⟨2, 42, none⟩), .pointer (some ta), .int .u64 406], .agg #[.pointer (some ⟨2, 42, none⟩), .pointer (some b), .int .u64 150]]).run Ybad.prog W
      = .ok (.tuple #[]) (W.setCell ta (.pointer (some e))) := by
  obtain ⟨s1, s2, s3, s4, s5, hrl⟩ := rls (.agg #[.pointer (some ⟨2, 42, none⟩), .pointer (some ta), .int .u64 406]) (.agg #[.pointer (some ⟨2, 42, none⟩), .pointer (some b), .int .u64 150])
  rw [hrl]
  simp only [Sem.run_bind, parts42a, parts42, Result.andThen]
  simp [ReflectliteValue.flagAddr, loadVar, isAgg, underlying, Ybad.underlying42, hb, Result.andThen, direct42, storeVar, Value.cells, storeCells, Addr.add]
  rw [run_store Ybad.prog W ta _ _ (by rfl)]
  simp [ht, hf]

/-! ### the chain's type assertions -/
theorem noAs45 (v : Value) (xT : TypeId) (w : World) : (Instr.typeAssert (.iface 45 v) xT 80 true).run Ybad.prog w = .ok (.tuple #[.nilIface, .bool false]) w := run_typeAssert_lacksB Ybad.underlying80 (by kernel_rfl) (by kernel_rfl) v xT w
theorem hasUnwrap45 (v : Value) (xT : TypeId) (w : World) : (Instr.typeAssert (.iface 45 v) xT 83 true).run Ybad.prog w = .ok (.tuple #[.iface 45 v, .bool true]) w := run_typeAssert_hasB Ybad.underlying83 (by kernel_rfl) v xT w
theorem noAs53 (v : Value) (xT : TypeId) (w : World) : (Instr.typeAssert (.iface 53 v) xT 80 true).run Ybad.prog w = .ok (.tuple #[.nilIface, .bool false]) w := run_typeAssert_lacksB Ybad.underlying80 (by kernel_rfl) (by kernel_rfl) v xT w
theorem noUnwrap53 (v : Value) (xT : TypeId) (w : World) : (Instr.typeAssert (.iface 53 v) xT 83 true).run Ybad.prog w = .ok (.tuple #[.nilIface, .bool false]) w := run_typeAssert_lacksB Ybad.underlying83 (by kernel_rfl) (by kernel_rfl) v xT w
theorem noUnwraps53 (v : Value) (xT : TypeId) (w : World) : (Instr.typeAssert (.iface 53 v) xT 85 true).run Ybad.prog w = .ok (.tuple #[.nilIface, .bool false]) w := run_typeAssert_lacksB Ybad.underlying85 (by kernel_rfl) (by kernel_rfl) v xT w

end Go.Proofs.YbulkhpaDoor
