/-
  errors.As by its contracts at this program's two targets ('**session.linkError', '**session.silenceError'), after the kit's worked example ToyasAs.lean: a nil error; the error's own dynamic type is the target's element type (hit); it is another and has neither As nor Unwrap (miss).
-/
import Derived.Test.Qxb6616470aDoorProg
import Derived.WalkKit
import Derived.LaidEql
import Derived.Stop.Asserts
import Derived.RowKitTokens
namespace Go.Proofs.Qxb6616470aDoor
open Go.RowKit Go.Extern.Stop Go.Stop Go.Extern

theorem as_nil (t : Value) (w : World) :
    Calls Tryd.prog 11 #[.nilIface, t] w fun e w' => e = .returned (.bool false) ∧ w' = w := by
  go_enter Tryd.func11, Tryd.ntmps11
  go_wp2
  go_ret
  exact ⟨rfl, rfl⟩

theorem rlm (z : Sem Value) (f : TypeId → Addr → Nat → Nat → Sem Value) (v : Value) :
    ReflectliteValue.method z f #[v] = (do match ← ReflectliteValue.parts v with | none => z | some (t, a, fl) => f t a fl (fl % 32)) := rfl
theorem methodKind (h : Value) (w : World) : (Go.method 197 54 (.agg #[h]) "Kind").run Tryd.prog w = .ok (33, h) w := by kernel_rfl
theorem methodElem (h : Value) (w : World) : (Go.method 197 54 (.agg #[h]) "Elem").run Tryd.prog w = .ok (45, .agg #[h]) w := by kernel_rfl
theorem methodImplements (h : Value) (w : World) : (Go.method 197 54 (.agg #[h]) "Implements").run Tryd.prog w = .ok (46, .agg #[h]) w := by kernel_rfl
theorem methodAssignableTo (h : Value) (w : World) : (Go.method 197 54 (.agg #[h]) "AssignableTo").run Tryd.prog w = .ok (43, .agg #[h]) w := by kernel_rfl
theorem rls (v x : Value) : ∃ (z : Sem Value) (y : Sem PUnit) (r : TypeId → TypeId → Addr → Value → Sem Value), ReflectliteValue.set #[v, x] = (do
    let (some (dst, a, fl), some (src, b, _)) := (← ReflectliteValue.parts v, ← ReflectliteValue.parts x) | z
    if fl / ReflectliteValue.flagAddr % 2 == 0 then y
    let val ← loadVar src b
    let ok ← Rtype.directlyAssignable dst src
    if ok then (do storeVar dst a val; pure (.tuple #[])) else r dst src a val) := ⟨_, _, _, rfl⟩

/-! ### closed facts at the target '*T' = 26, '**T' = 36 -/
theorem valueOf36 (t : Addr) (w : World) : (ReflectliteValue.unpack (.iface 36 (.pointer (some t)))).run Tryd.prog w
    = .ok (.agg #[.pointer (some ⟨1, 36, none⟩), .pointer (some ⟨w.heap.size, 0, none⟩), .int .u64 150]) (w.alloc (.cells #[.pointer (some t)] 36)) := by kernel_rfl
theorem type36 (a : Addr) (w : World) : (ReflectliteValue.methodAny (ReflectliteValue.valueError "reflectlite.Value.Type" 0) (fun t _ _ _ => ReflectliteType.toType t) #[.agg #[.pointer (some ⟨1, 36, none⟩), .pointer (some a), .int .u64 150]]).run Tryd.prog w
    = .ok (.iface 54 (.agg #[.pointer (some ⟨1, 36, none⟩)])) w := by kernel_rfl
theorem kind36 (w : World) : ((ReflectliteType.abiMethod fun t => Functor.map (fun a : Nat => Value.int IntKind.u8 (a : Int)) (Rtype.kind t)) #[.pointer (some ⟨1, 36, none⟩)]).run Tryd.prog w = .ok (.int .u8 22) w := by kernel_rfl
theorem kind26 (w : World) : ((ReflectliteType.abiMethod fun t => Functor.map (fun a : Nat => Value.int IntKind.u8 (a : Int)) (Rtype.kind t)) #[.pointer (some ⟨1, 26, none⟩)]).run Tryd.prog w = .ok (.int .u8 22) w := by kernel_rfl
theorem parts36 (a : Addr) (w : World) : (ReflectliteValue.parts (.agg #[.pointer (some ⟨1, 36, none⟩), .pointer (some a), .int .u64 150])).run Tryd.prog w = .ok (some (36, a, 150)) w := by kernel_rfl
theorem isNil36 (a p : Addr) (W : World) (ha : W.cell? a = some (.pointer (some p))) :
    (ReflectliteValue.method (ReflectliteValue.valueError "reflectlite.Value.IsNil" 0) ReflectliteValue.isNil #[.agg #[.pointer (some ⟨1, 36, none⟩), .pointer (some a), .int .u64 150]]).run Tryd.prog W = .ok (.bool false) W := by
  rw [rlm]
  simp only [Sem.run_bind, parts36, Result.andThen]
  simp [ReflectliteValue.isNil, loadVar, isAgg, underlying, Tryd.underlying36, ha, Result.andThen]
theorem elem36 (w : World) : (ReflectliteType.method ReflectliteType.elem #[.agg #[.pointer (some ⟨1, 36, none⟩)]]).run Tryd.prog w = .ok (.iface 54 (.agg #[.pointer (some ⟨1, 26, none⟩)])) w := by kernel_rfl
theorem implements26 (w : World) : (ReflectliteType.relation "Implements" ReflectliteType.implements_ #[.agg #[.pointer (some ⟨1, 26, none⟩)], .iface 54 (.agg #[.pointer (some ⟨1, 28, none⟩)])]).run Tryd.prog w = .ok (.bool true) w := by kernel_rfl
theorem assignable26_26 (w : World) : (ReflectliteType.relation "AssignableTo" ReflectliteType.assignableTo #[.agg #[.pointer (some ⟨1, 26, none⟩)], .iface 54 (.agg #[.pointer (some ⟨1, 26, none⟩)])]).run Tryd.prog w = .ok (.bool true) w := by kernel_rfl
theorem valueOf26 (e : Addr) (w : World) : (ReflectliteValue.unpack (.iface 26 (.pointer (some e)))).run Tryd.prog w
    = .ok (.agg #[.pointer (some ⟨1, 26, none⟩), .pointer (some ⟨w.heap.size, 0, none⟩), .int .u64 150]) (w.alloc (.cells #[.pointer (some e)] 26)) := by kernel_rfl
theorem elemOf36 (w : World) : (Rtype.elem? 36).run Tryd.prog w = .ok (some 26) w := by kernel_rfl
theorem mk26 (p : Addr) (w : World) : (ReflectliteValue.mk 26 p ReflectliteValue.flagAddr).run Tryd.prog w = .ok (.agg #[.pointer (some ⟨1, 26, none⟩), .pointer (some p), .int .u64 406]) w := by kernel_rfl
theorem elemV36 (a p : Addr) (W : World) (ha : W.cell? a = some (.pointer (some p))) :
    (ReflectliteValue.method (ReflectliteValue.valueError "reflectlite.Value.Elem" 0) ReflectliteValue.elem #[.agg #[.pointer (some ⟨1, 36, none⟩), .pointer (some a), .int .u64 150]]).run Tryd.prog W
      = .ok (.agg #[.pointer (some ⟨1, 26, none⟩), .pointer (some p), .int .u64 406]) W := by
  rw [rlm]
  simp only [Sem.run_bind, parts36, Result.andThen]
  simp [ReflectliteValue.elem, loadVar, isAgg, underlying, Tryd.underlying36, ha, Result.andThen, elemOf36, mk26]
theorem parts26a (a : Addr) (w : World) : (ReflectliteValue.parts (.agg #[.pointer (some ⟨1, 26, none⟩), .pointer (some a), .int .u64 406])).run Tryd.prog w = .ok (some (26, a, 406)) w := by kernel_rfl
theorem parts26 (a : Addr) (w : World) : (ReflectliteValue.parts (.agg #[.pointer (some ⟨1, 26, none⟩), .pointer (some a), .int .u64 150])).run Tryd.prog w = .ok (some (26, a, 150)) w := by kernel_rfl
theorem direct26 (w : World) : (Rtype.directlyAssignable 26 26).run Tryd.prog w = .ok true w := by kernel_rfl
theorem set26 (ta b e : Addr) (old : Value) (W : World) (hb : W.cell? b = some (.pointer (some e))) (ht : W.cell? ta = some old) (hf : W.frozen? ta = false) :
    (ReflectliteValue.set #[.agg #[.pointer (some ⟨1, 26, none⟩), .pointer (some ta), .int .u64 406], .agg #[.pointer (some ⟨1, 26, none⟩), .pointer (some b), .int .u64 150]]).run Tryd.prog W
      = .ok (.tuple #[]) (W.setCell ta (.pointer (some e))) := by
  obtain ⟨z, y, r, hr⟩ := rls (.agg #[.pointer (some ⟨1, 26, none⟩), .pointer (some ta), .int .u64 406]) (.agg #[.pointer (some ⟨1, 26, none⟩), .pointer (some b), .int .u64 150])
  rw [hr]
  simp only [Sem.run_bind, parts26a, parts26, Result.andThen]
  simp [ReflectliteValue.flagAddr, loadVar, isAgg, underlying, Tryd.underlying26, hb, Result.andThen, direct26, storeVar, Value.cells, storeCells, Addr.add]
  rw [run_store Tryd.prog W ta _ _ (by rfl)]
  simp [ht, hf]

/-! ### closed facts at the target '*T' = 32, '**T' = 37 -/
theorem valueOf37 (t : Addr) (w : World) : (ReflectliteValue.unpack (.iface 37 (.pointer (some t)))).run Tryd.prog w
    = .ok (.agg #[.pointer (some ⟨1, 37, none⟩), .pointer (some ⟨w.heap.size, 0, none⟩), .int .u64 150]) (w.alloc (.cells #[.pointer (some t)] 37)) := by kernel_rfl
theorem type37 (a : Addr) (w : World) : (ReflectliteValue.methodAny (ReflectliteValue.valueError "reflectlite.Value.Type" 0) (fun t _ _ _ => ReflectliteType.toType t) #[.agg #[.pointer (some ⟨1, 37, none⟩), .pointer (some a), .int .u64 150]]).run Tryd.prog w
    = .ok (.iface 54 (.agg #[.pointer (some ⟨1, 37, none⟩)])) w := by kernel_rfl
theorem kind37 (w : World) : ((ReflectliteType.abiMethod fun t => Functor.map (fun a : Nat => Value.int IntKind.u8 (a : Int)) (Rtype.kind t)) #[.pointer (some ⟨1, 37, none⟩)]).run Tryd.prog w = .ok (.int .u8 22) w := by kernel_rfl
theorem kind32 (w : World) : ((ReflectliteType.abiMethod fun t => Functor.map (fun a : Nat => Value.int IntKind.u8 (a : Int)) (Rtype.kind t)) #[.pointer (some ⟨1, 32, none⟩)]).run Tryd.prog w = .ok (.int .u8 22) w := by kernel_rfl
theorem parts37 (a : Addr) (w : World) : (ReflectliteValue.parts (.agg #[.pointer (some ⟨1, 37, none⟩), .pointer (some a), .int .u64 150])).run Tryd.prog w = .ok (some (37, a, 150)) w := by kernel_rfl
theorem isNil37 (a p : Addr) (W : World) (ha : W.cell? a = some (.pointer (some p))) :
    (ReflectliteValue.method (ReflectliteValue.valueError "reflectlite.Value.IsNil" 0) ReflectliteValue.isNil #[.agg #[.pointer (some ⟨1, 37, none⟩), .pointer (some a), .int .u64 150]]).run Tryd.prog W = .ok (.bool false) W := by
  rw [rlm]
  simp only [Sem.run_bind, parts37, Result.andThen]
  simp [ReflectliteValue.isNil, loadVar, isAgg, underlying, Tryd.underlying37, ha, Result.andThen]
theorem elem37 (w : World) : (ReflectliteType.method ReflectliteType.elem #[.agg #[.pointer (some ⟨1, 37, none⟩)]]).run Tryd.prog w = .ok (.iface 54 (.agg #[.pointer (some ⟨1, 32, none⟩)])) w := by kernel_rfl
theorem implements32 (w : World) : (ReflectliteType.relation "Implements" ReflectliteType.implements_ #[.agg #[.pointer (some ⟨1, 32, none⟩)], .iface 54 (.agg #[.pointer (some ⟨1, 28, none⟩)])]).run Tryd.prog w = .ok (.bool true) w := by kernel_rfl
theorem assignable32_32 (w : World) : (ReflectliteType.relation "AssignableTo" ReflectliteType.assignableTo #[.agg #[.pointer (some ⟨1, 32, none⟩)], .iface 54 (.agg #[.pointer (some ⟨1, 32, none⟩)])]).run Tryd.prog w = .ok (.bool true) w := by kernel_rfl
theorem valueOf32 (e : Addr) (w : World) : (ReflectliteValue.unpack (.iface 32 (.pointer (some e)))).run Tryd.prog w
    = .ok (.agg #[.pointer (some ⟨1, 32, none⟩), .pointer (some ⟨w.heap.size, 0, none⟩), .int .u64 150]) (w.alloc (.cells #[.pointer (some e)] 32)) := by kernel_rfl
theorem elemOf37 (w : World) : (Rtype.elem? 37).run Tryd.prog w = .ok (some 32) w := by kernel_rfl
theorem mk32 (p : Addr) (w : World) : (ReflectliteValue.mk 32 p ReflectliteValue.flagAddr).run Tryd.prog w = .ok (.agg #[.pointer (some ⟨1, 32, none⟩), .pointer (some p), .int .u64 406]) w := by kernel_rfl
theorem elemV37 (a p : Addr) (W : World) (ha : W.cell? a = some (.pointer (some p))) :
    (ReflectliteValue.method (ReflectliteValue.valueError "reflectlite.Value.Elem" 0) ReflectliteValue.elem #[.agg #[.pointer (some ⟨1, 37, none⟩), .pointer (some a), .int .u64 150]]).run Tryd.prog W
      = .ok (.agg #[.pointer (some ⟨1, 32, none⟩), .pointer (some p), .int .u64 406]) W := by
  rw [rlm]
  simp only [Sem.run_bind, parts37, Result.andThen]
  simp [ReflectliteValue.elem, loadVar, isAgg, underlying, Tryd.underlying37, ha, Result.andThen, elemOf37, mk32]
theorem parts32a (a : Addr) (w : World) : (ReflectliteValue.parts (.agg #[.pointer (some ⟨1, 32, none⟩), .pointer (some a), .int .u64 406])).run Tryd.prog w = .ok (some (32, a, 406)) w := by kernel_rfl
theorem parts32 (a : Addr) (w : World) : (ReflectliteValue.parts (.agg #[.pointer (some ⟨1, 32, none⟩), .pointer (some a), .int .u64 150])).run Tryd.prog w = .ok (some (32, a, 150)) w := by kernel_rfl
theorem direct32 (w : World) : (Rtype.directlyAssignable 32 32).run Tryd.prog w = .ok true w := by kernel_rfl
theorem set32 (ta b e : Addr) (old : Value) (W : World) (hb : W.cell? b = some (.pointer (some e))) (ht : W.cell? ta = some old) (hf : W.frozen? ta = false) :
    (ReflectliteValue.set #[.agg #[.pointer (some ⟨1, 32, none⟩), .pointer (some ta), .int .u64 406], .agg #[.pointer (some ⟨1, 32, none⟩), .pointer (some b), .int .u64 150]]).run Tryd.prog W
      = .ok (.tuple #[]) (W.setCell ta (.pointer (some e))) := by
  obtain ⟨z, y, r, hr⟩ := rls (.agg #[.pointer (some ⟨1, 32, none⟩), .pointer (some ta), .int .u64 406]) (.agg #[.pointer (some ⟨1, 32, none⟩), .pointer (some b), .int .u64 150])
  rw [hr]
  simp only [Sem.run_bind, parts32a, parts32, Result.andThen]
  simp [ReflectliteValue.flagAddr, loadVar, isAgg, underlying, Tryd.underlying32, hb, Result.andThen, direct32, storeVar, Value.cells, storeCells, Addr.add]
  rw [run_store Tryd.prog W ta _ _ (by rfl)]
  simp [ht, hf]

theorem typeOf26 (v : Value) (w : World) : (ReflectliteType.typeOf #[.iface 26 v]).run Tryd.prog w = .ok (.iface 54 (.agg #[.pointer (some ⟨1, 26, none⟩)])) w := by kernel_rfl

theorem typeOf32 (v : Value) (w : World) : (ReflectliteType.typeOf #[.iface 32 v]).run Tryd.prog w = .ok (.iface 54 (.agg #[.pointer (some ⟨1, 32, none⟩)])) w := by kernel_rfl

theorem typeOf38 (v : Value) (w : World) : (ReflectliteType.typeOf #[.iface 38 v]).run Tryd.prog w = .ok (.iface 54 (.agg #[.pointer (some ⟨1, 38, none⟩)])) w := by kernel_rfl

theorem noAs32 (v : Value) (xT : TypeId) (w : World) : (Instr.typeAssert (.iface 32 v) xT 59 true).run Tryd.prog w = .ok (.tuple #[.nilIface, .bool false]) w := run_typeAssert_lacksB Tryd.underlying59 (by kernel_rfl) (by kernel_rfl) v xT w
theorem noUnwrap32 (v : Value) (xT : TypeId) (w : World) : (Instr.typeAssert (.iface 32 v) xT 62 true).run Tryd.prog w = .ok (.tuple #[.nilIface, .bool false]) w := run_typeAssert_lacksB Tryd.underlying62 (by kernel_rfl) (by kernel_rfl) v xT w
theorem noUnwraps32 (v : Value) (xT : TypeId) (w : World) : (Instr.typeAssert (.iface 32 v) xT 64 true).run Tryd.prog w = .ok (.tuple #[.nilIface, .bool false]) w := run_typeAssert_lacksB Tryd.underlying64 (by kernel_rfl) (by kernel_rfl) v xT w

theorem noAs38 (v : Value) (xT : TypeId) (w : World) : (Instr.typeAssert (.iface 38 v) xT 59 true).run Tryd.prog w = .ok (.tuple #[.nilIface, .bool false]) w := run_typeAssert_lacksB Tryd.underlying59 (by kernel_rfl) (by kernel_rfl) v xT w
theorem noUnwrap38 (v : Value) (xT : TypeId) (w : World) : (Instr.typeAssert (.iface 38 v) xT 62 true).run Tryd.prog w = .ok (.tuple #[.nilIface, .bool false]) w := run_typeAssert_lacksB Tryd.underlying62 (by kernel_rfl) (by kernel_rfl) v xT w
theorem noUnwraps38 (v : Value) (xT : TypeId) (w : World) : (Instr.typeAssert (.iface 38 v) xT 64 true).run Tryd.prog w = .ok (.tuple #[.nilIface, .bool false]) w := run_typeAssert_lacksB Tryd.underlying64 (by kernel_rfl) (by kernel_rfl) v xT w
end Go.Proofs.Qxb6616470aDoor
