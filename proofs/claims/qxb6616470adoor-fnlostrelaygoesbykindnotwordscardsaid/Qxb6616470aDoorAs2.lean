import Derived.Test.Qxb6616470aDoorAs0
namespace Go.Proofs.Qxb6616470aDoor
open Go.RowKit Go.Extern.Stop Go.Stop Go.Extern

theorem assignable32_26 (w : World) : (ReflectliteType.relation "AssignableTo" ReflectliteType.assignableTo #[.agg #[.pointer (some ⟨1, 32, none⟩)], .iface 54 (.agg #[.pointer (some ⟨1, 26, none⟩)])]).run Tryd.prog w = .ok (.bool false) w := by kernel_rfl
set_option maxHeartbeats 4000000 in
theorem as_miss32_26 (v : Value) (t : Addr) (w : World) (hg : w.cell? ⟨0, 0, none⟩ = some (.iface 54 (.agg #[.pointer (some ⟨1, 28, none⟩)]))) :
    Calls Tryd.prog 11 #[.iface 32 v, .iface 36 (.pointer (some t))] w fun ev w' => ev = .returned (.bool false) ∧ w' = (((w.alloc (.cells #[.pointer (some t)] 36)).alloc (.cells #[.pointer (some ⟨1, 36, none⟩), .pointer (some ⟨w.heap.size, 0, none⟩), .int .u64 150] 44)).alloc (.cells #[.pointer (some ⟨1, 36, none⟩), .pointer (some ⟨w.heap.size, 0, none⟩), .int .u64 150] 44)) := by
  have h12 := @run_callFunc_extern Tryd.prog 12 _ (fun args => ReflectliteValue.unpack (args.getD 0 (.tuple #[]))) Tryd.func12 (by kernel_rfl) (by kernel_rfl) (by kernel_rfl) (by kernel_rfl)
  have h13 := @run_callFunc_extern Tryd.prog 13 _ (ReflectliteValue.methodAny (ReflectliteValue.valueError "reflectlite.Value.Type" 0) (fun t _ _ _ => ReflectliteType.toType t)) Tryd.func13 (by kernel_rfl) (by kernel_rfl) (by kernel_rfl) (by kernel_rfl)
  have h14 := @run_callFunc_extern Tryd.prog 14 _ (ReflectliteValue.method (ReflectliteValue.valueError "reflectlite.Value.IsNil" 0) ReflectliteValue.isNil) Tryd.func14 (by kernel_rfl) (by kernel_rfl) (by kernel_rfl) (by kernel_rfl)
  have h33 := @run_callFunc_extern Tryd.prog 33 _ (ReflectliteType.abiMethod fun t => do pure (.int .u8 (← Rtype.kind t))) Tryd.func33 (by kernel_rfl) (by kernel_rfl) (by kernel_rfl) (by kernel_rfl)
  have h45 := @run_callFunc_extern Tryd.prog 45 _ (ReflectliteType.method ReflectliteType.elem) Tryd.func45 (by kernel_rfl) (by kernel_rfl) (by kernel_rfl) (by kernel_rfl)
  have h46 := @run_callFunc_extern Tryd.prog 46 _ (ReflectliteType.relation "Implements" ReflectliteType.implements_) Tryd.func46 (by kernel_rfl) (by kernel_rfl) (by kernel_rfl) (by kernel_rfl)
  have h16 := @run_callFunc_extern Tryd.prog 16 _ ReflectliteType.typeOf Tryd.func16 (by kernel_rfl) (by kernel_rfl) (by kernel_rfl) (by kernel_rfl)
  have h43 := @run_callFunc_extern Tryd.prog 43 _ (ReflectliteType.relation "AssignableTo" ReflectliteType.assignableTo) Tryd.func43 (by kernel_rfl) (by kernel_rfl) (by kernel_rfl) (by kernel_rfl)
  have mK := methodKind
  have mE := methodElem
  have mI := methodImplements
  have mA := methodAssignableTo
  have tO := typeOf32
  have aT := assignable32_26
  have f12 := valueOf36
  have f13 := type36
  have kTT := kind36
  have kT := kind26
  have eTT := elem36
  have iT := implements26
  have nA := noAs32
  have nU := noUnwrap32
  have nV := noUnwraps32
  have n14 := isNil36 ⟨w.heap.size, 0, none⟩ t ((w.alloc (.cells #[.pointer (some t)] 36)).alloc (.cells #[.pointer (some ⟨1, 36, none⟩), .pointer (some ⟨w.heap.size, 0, none⟩), .int .u64 150] 44)) (by simp)
  have hlt : 0 < w.heap.size := by
    rcases Nat.eq_zero_or_pos w.heap.size with h0 | h
    · simp [World.cell?, h0] at hg
    · exact h
  have hg2 : ((w.alloc (.cells #[.pointer (some t)] 36)).alloc (.cells #[.pointer (some ⟨1, 36, none⟩), .pointer (some ⟨w.heap.size, 0, none⟩), .int .u64 150] 44)).cell? ⟨0, 0, none⟩ = some (.iface 54 (.agg #[.pointer (some ⟨1, 28, none⟩)])) := by
    rw [World.cell?_alloc_lt _ _ ⟨0, 0, none⟩ (by simp), World.cell?_alloc_lt _ _ ⟨0, 0, none⟩ hlt]; exact hg
  go_enter Tryd.func11, Tryd.ntmps11
  go_wp2
  refine wp_loop_rounds 1 ?_
  rw [rounds_succ]
  go_wp2
  go_ret
  exact ⟨rfl, rfl⟩

theorem assignable38_26 (w : World) : (ReflectliteType.relation "AssignableTo" ReflectliteType.assignableTo #[.agg #[.pointer (some ⟨1, 38, none⟩)], .iface 54 (.agg #[.pointer (some ⟨1, 26, none⟩)])]).run Tryd.prog w = .ok (.bool false) w := by kernel_rfl
set_option maxHeartbeats 4000000 in
theorem as_miss38_26 (v : Value) (t : Addr) (w : World) (hg : w.cell? ⟨0, 0, none⟩ = some (.iface 54 (.agg #[.pointer (some ⟨1, 28, none⟩)]))) :
    Calls Tryd.prog 11 #[.iface 38 v, .iface 36 (.pointer (some t))] w fun ev w' => ev = .returned (.bool false) ∧ w' = (((w.alloc (.cells #[.pointer (some t)] 36)).alloc (.cells #[.pointer (some ⟨1, 36, none⟩), .pointer (some ⟨w.heap.size, 0, none⟩), .int .u64 150] 44)).alloc (.cells #[.pointer (some ⟨1, 36, none⟩), .pointer (some ⟨w.heap.size, 0, none⟩), .int .u64 150] 44)) := by
  have h12 := @run_callFunc_extern Tryd.prog 12 _ (fun args => ReflectliteValue.unpack (args.getD 0 (.tuple #[]))) Tryd.func12 (by kernel_rfl) (by kernel_rfl) (by kernel_rfl) (by kernel_rfl)
  have h13 := @run_callFunc_extern Tryd.prog 13 _ (ReflectliteValue.methodAny (ReflectliteValue.valueError "reflectlite.Value.Type" 0) (fun t _ _ _ => ReflectliteType.toType t)) Tryd.func13 (by kernel_rfl) (by kernel_rfl) (by kernel_rfl) (by kernel_rfl)
  have h14 := @run_callFunc_extern Tryd.prog 14 _ (ReflectliteValue.method (ReflectliteValue.valueError "reflectlite.Value.IsNil" 0) ReflectliteValue.isNil) Tryd.func14 (by kernel_rfl) (by kernel_rfl) (by kernel_rfl) (by kernel_rfl)
  have h33 := @run_callFunc_extern Tryd.prog 33 _ (ReflectliteType.abiMethod fun t => do pure (.int .u8 (← Rtype.kind t))) Tryd.func33 (by kernel_rfl) (by kernel_rfl) (by kernel_rfl) (by kernel_rfl)
  have h45 := @run_callFunc_extern Tryd.prog 45 _ (ReflectliteType.method ReflectliteType.elem) Tryd.func45 (by kernel_rfl) (by kernel_rfl) (by kernel_rfl) (by kernel_rfl)
  have h46 := @run_callFunc_extern Tryd.prog 46 _ (ReflectliteType.relation "Implements" ReflectliteType.implements_) Tryd.func46 (by kernel_rfl) (by kernel_rfl) (by kernel_rfl) (by kernel_rfl)
  have h16 := @run_callFunc_extern Tryd.prog 16 _ ReflectliteType.typeOf Tryd.func16 (by kernel_rfl) (by kernel_rfl) (by kernel_rfl) (by kernel_rfl)
  have h43 := @run_callFunc_extern Tryd.prog 43 _ (ReflectliteType.relation "AssignableTo" ReflectliteType.assignableTo) Tryd.func43 (by kernel_rfl) (by kernel_rfl) (by kernel_rfl) (by kernel_rfl)
  have mK := methodKind
  have mE := methodElem
  have mI := methodImplements
  have mA := methodAssignableTo
  have tO := typeOf38
  have aT := assignable38_26
  have f12 := valueOf36
  have f13 := type36
  have kTT := kind36
  have kT := kind26
  have eTT := elem36
  have iT := implements26
  have nA := noAs38
  have nU := noUnwrap38
  have nV := noUnwraps38
  have n14 := isNil36 ⟨w.heap.size, 0, none⟩ t ((w.alloc (.cells #[.pointer (some t)] 36)).alloc (.cells #[.pointer (some ⟨1, 36, none⟩), .pointer (some ⟨w.heap.size, 0, none⟩), .int .u64 150] 44)) (by simp)
  have hlt : 0 < w.heap.size := by
    rcases Nat.eq_zero_or_pos w.heap.size with h0 | h
    · simp [World.cell?, h0] at hg
    · exact h
  have hg2 : ((w.alloc (.cells #[.pointer (some t)] 36)).alloc (.cells #[.pointer (some ⟨1, 36, none⟩), .pointer (some ⟨w.heap.size, 0, none⟩), .int .u64 150] 44)).cell? ⟨0, 0, none⟩ = some (.iface 54 (.agg #[.pointer (some ⟨1, 28, none⟩)])) := by
    rw [World.cell?_alloc_lt _ _ ⟨0, 0, none⟩ (by simp), World.cell?_alloc_lt _ _ ⟨0, 0, none⟩ hlt]; exact hg
  go_enter Tryd.func11, Tryd.ntmps11
  go_wp2
  refine wp_loop_rounds 1 ?_
  rw [rounds_succ]
  go_wp2
  go_ret
  exact ⟨rfl, rfl⟩

theorem assignable38_32 (w : World) : (ReflectliteType.relation "AssignableTo" ReflectliteType.assignableTo #[.agg #[.pointer (some ⟨1, 38, none⟩)], .iface 54 (.agg #[.pointer (some ⟨1, 32, none⟩)])]).run Tryd.prog w = .ok (.bool false) w := by kernel_rfl
set_option maxHeartbeats 4000000 in
theorem as_miss38_32 (v : Value) (t : Addr) (w : World) (hg : w.cell? ⟨0, 0, none⟩ = some (.iface 54 (.agg #[.pointer (some ⟨1, 28, none⟩)]))) :
    Calls Tryd.prog 11 #[.iface 38 v, .iface 37 (.pointer (some t))] w fun ev w' => ev = .returned (.bool false) ∧ w' = (((w.alloc (.cells #[.pointer (some t)] 37)).alloc (.cells #[.pointer (some ⟨1, 37, none⟩), .pointer (some ⟨w.heap.size, 0, none⟩), .int .u64 150] 44)).alloc (.cells #[.pointer (some ⟨1, 37, none⟩), .pointer (some ⟨w.heap.size, 0, none⟩), .int .u64 150] 44)) := by
  have h12 := @run_callFunc_extern Tryd.prog 12 _ (fun args => ReflectliteValue.unpack (args.getD 0 (.tuple #[]))) Tryd.func12 (by kernel_rfl) (by kernel_rfl) (by kernel_rfl) (by kernel_rfl)
  have h13 := @run_callFunc_extern Tryd.prog 13 _ (ReflectliteValue.methodAny (ReflectliteValue.valueError "reflectlite.Value.Type" 0) (fun t _ _ _ => ReflectliteType.toType t)) Tryd.func13 (by kernel_rfl) (by kernel_rfl) (by kernel_rfl) (by kernel_rfl)
  have h14 := @run_callFunc_extern Tryd.prog 14 _ (ReflectliteValue.method (ReflectliteValue.valueError "reflectlite.Value.IsNil" 0) ReflectliteValue.isNil) Tryd.func14 (by kernel_rfl) (by kernel_rfl) (by kernel_rfl) (by kernel_rfl)
  have h33 := @run_callFunc_extern Tryd.prog 33 _ (ReflectliteType.abiMethod fun t => do pure (.int .u8 (← Rtype.kind t))) Tryd.func33 (by kernel_rfl) (by kernel_rfl) (by kernel_rfl) (by kernel_rfl)
  have h45 := @run_callFunc_extern Tryd.prog 45 _ (ReflectliteType.method ReflectliteType.elem) Tryd.func45 (by kernel_rfl) (by kernel_rfl) (by kernel_rfl) (by kernel_rfl)
  have h46 := @run_callFunc_extern Tryd.prog 46 _ (ReflectliteType.relation "Implements" ReflectliteType.implements_) Tryd.func46 (by kernel_rfl) (by kernel_rfl) (by kernel_rfl) (by kernel_rfl)
  have h16 := @run_callFunc_extern Tryd.prog 16 _ ReflectliteType.typeOf Tryd.func16 (by kernel_rfl) (by kernel_rfl) (by kernel_rfl) (by kernel_rfl)
  have h43 := @run_callFunc_extern Tryd.prog 43 _ (ReflectliteType.relation "AssignableTo" ReflectliteType.assignableTo) Tryd.func43 (by kernel_rfl) (by kernel_rfl) (by kernel_rfl) (by kernel_rfl)
  have mK := methodKind
  have mE := methodElem
  have mI := methodImplements
  have mA := methodAssignableTo
  have tO := typeOf38
  have aT := assignable38_32
  have f12 := valueOf37
  have f13 := type37
  have kTT := kind37
  have kT := kind32
  have eTT := elem37
  have iT := implements32
  have nA := noAs38
  have nU := noUnwrap38
  have nV := noUnwraps38
  have n14 := isNil37 ⟨w.heap.size, 0, none⟩ t ((w.alloc (.cells #[.pointer (some t)] 37)).alloc (.cells #[.pointer (some ⟨1, 37, none⟩), .pointer (some ⟨w.heap.size, 0, none⟩), .int .u64 150] 44)) (by simp)
  have hlt : 0 < w.heap.size := by
    rcases Nat.eq_zero_or_pos w.heap.size with h0 | h
    · simp [World.cell?, h0] at hg
    · exact h
  have hg2 : ((w.alloc (.cells #[.pointer (some t)] 37)).alloc (.cells #[.pointer (some ⟨1, 37, none⟩), .pointer (some ⟨w.heap.size, 0, none⟩), .int .u64 150] 44)).cell? ⟨0, 0, none⟩ = some (.iface 54 (.agg #[.pointer (some ⟨1, 28, none⟩)])) := by
    rw [World.cell?_alloc_lt _ _ ⟨0, 0, none⟩ (by simp), World.cell?_alloc_lt _ _ ⟨0, 0, none⟩ hlt]; exact hg
  go_enter Tryd.func11, Tryd.ntmps11
  go_wp2
  refine wp_loop_rounds 1 ?_
  rw [rounds_succ]
  go_wp2
  go_ret
  exact ⟨rfl, rfl⟩
end Go.Proofs.Qxb6616470aDoor
