import Derived.Test.Qxb6616470aDoorAs0
namespace Go.Proofs.Qxb6616470aDoor
open Go.RowKit Go.Extern.Stop Go.Stop Go.Extern

set_option maxHeartbeats 4000000 in
theorem as_hit26 (e t : Addr) (old : Value) (w : World) (hg : w.cell? ⟨0, 0, none⟩ = some (.iface 54 (.agg #[.pointer (some ⟨1, 28, none⟩)]))) (ht0 : w.cell? t = some old) (hf0 : w.frozen? t = false) :
    Calls Tryd.prog 11 #[.iface 26 (.pointer (some e)), .iface 36 (.pointer (some t))] w fun ev w' => ev = .returned (.bool true) ∧ w' = ((((w.alloc (.cells #[.pointer (some t)] 36)).alloc (.cells #[.pointer (some ⟨1, 36, none⟩), .pointer (some ⟨w.heap.size, 0, none⟩), .int .u64 150] 44)).alloc (.cells #[.pointer (some ⟨1, 36, none⟩), .pointer (some ⟨w.heap.size, 0, none⟩), .int .u64 150] 44)).alloc (.cells #[.pointer (some e)] 26)).setCell t (.pointer (some e)) := by
  have h12 := @run_callFunc_extern Tryd.prog 12 _ (fun args => ReflectliteValue.unpack (args.getD 0 (.tuple #[]))) Tryd.func12 (by kernel_rfl) (by kernel_rfl) (by kernel_rfl) (by kernel_rfl)
  have h13 := @run_callFunc_extern Tryd.prog 13 _ (ReflectliteValue.methodAny (ReflectliteValue.valueError "reflectlite.Value.Type" 0) (fun t _ _ _ => ReflectliteType.toType t)) Tryd.func13 (by kernel_rfl) (by kernel_rfl) (by kernel_rfl) (by kernel_rfl)
  have h14 := @run_callFunc_extern Tryd.prog 14 _ (ReflectliteValue.method (ReflectliteValue.valueError "reflectlite.Value.IsNil" 0) ReflectliteValue.isNil) Tryd.func14 (by kernel_rfl) (by kernel_rfl) (by kernel_rfl) (by kernel_rfl)
  have h33 := @run_callFunc_extern Tryd.prog 33 _ (ReflectliteType.abiMethod fun t => do pure (.int .u8 (← Rtype.kind t))) Tryd.func33 (by kernel_rfl) (by kernel_rfl) (by kernel_rfl) (by kernel_rfl)
  have h45 := @run_callFunc_extern Tryd.prog 45 _ (ReflectliteType.method ReflectliteType.elem) Tryd.func45 (by kernel_rfl) (by kernel_rfl) (by kernel_rfl) (by kernel_rfl)
  have h46 := @run_callFunc_extern Tryd.prog 46 _ (ReflectliteType.relation "Implements" ReflectliteType.implements_) Tryd.func46 (by kernel_rfl) (by kernel_rfl) (by kernel_rfl) (by kernel_rfl)
  have h16 := @run_callFunc_extern Tryd.prog 16 _ ReflectliteType.typeOf Tryd.func16 (by kernel_rfl) (by kernel_rfl) (by kernel_rfl) (by kernel_rfl)
  have h43 := @run_callFunc_extern Tryd.prog 43 _ (ReflectliteType.relation "AssignableTo" ReflectliteType.assignableTo) Tryd.func43 (by kernel_rfl) (by kernel_rfl) (by kernel_rfl) (by kernel_rfl)
  have mK := methodKind
  have mE := methodElem
  have mI := methodImplements
  have mA := methodAssignableTo
  have h17 := @run_callFunc_extern Tryd.prog 17 _ (ReflectliteValue.method (ReflectliteValue.valueError "reflectlite.Value.Elem" 0) ReflectliteValue.elem) Tryd.func17 (by kernel_rfl) (by kernel_rfl) (by kernel_rfl) (by kernel_rfl)
  have h18 := @run_callFunc_extern Tryd.prog 18 _ ReflectliteValue.set Tryd.func18 (by kernel_rfl) (by kernel_rfl) (by kernel_rfl) (by kernel_rfl)
  have tO := typeOf26
  have aT := assignable26_26
  have vT := valueOf26
  have f12 := valueOf36
  have f13 := type36
  have kTT := kind36
  have kT := kind26
  have eTT := elem36
  have iT := implements26
  have n14 := isNil36 ⟨w.heap.size, 0, none⟩ t ((w.alloc (.cells #[.pointer (some t)] 36)).alloc (.cells #[.pointer (some ⟨1, 36, none⟩), .pointer (some ⟨w.heap.size, 0, none⟩), .int .u64 150] 44)) (by simp)
  have hlt : 0 < w.heap.size := by
    rcases Nat.eq_zero_or_pos w.heap.size with h0 | h
    · simp [World.cell?, h0] at hg
    · exact h
  have hg2 : ((w.alloc (.cells #[.pointer (some t)] 36)).alloc (.cells #[.pointer (some ⟨1, 36, none⟩), .pointer (some ⟨w.heap.size, 0, none⟩), .int .u64 150] 44)).cell? ⟨0, 0, none⟩ = some (.iface 54 (.agg #[.pointer (some ⟨1, 28, none⟩)])) := by
    rw [World.cell?_alloc_lt _ _ ⟨0, 0, none⟩ (by simp), World.cell?_alloc_lt _ _ ⟨0, 0, none⟩ hlt]; exact hg
  have htl : t.block < w.heap.size := by
    rcases Nat.lt_or_ge t.block w.heap.size with h | h
    · exact h
    · simp [World.cell?, Array.getElem?_eq_none h] at ht0
  have el := elemV36 ⟨w.heap.size, 0, none⟩ t (((w.alloc (.cells #[.pointer (some t)] 36)).alloc (.cells #[.pointer (some ⟨1, 36, none⟩), .pointer (some ⟨w.heap.size, 0, none⟩), .int .u64 150] 44)).alloc (.cells #[.pointer (some ⟨1, 36, none⟩), .pointer (some ⟨w.heap.size, 0, none⟩), .int .u64 150] 44)) (by rw [World.cell?_alloc_lt _ _ ⟨w.heap.size, 0, none⟩ (by simp; omega)]; simp)
  have st := set26 t ⟨w.heap.size + 1 + 1 + 1, 0, none⟩ e old ((((w.alloc (.cells #[.pointer (some t)] 36)).alloc (.cells #[.pointer (some ⟨1, 36, none⟩), .pointer (some ⟨w.heap.size, 0, none⟩), .int .u64 150] 44)).alloc (.cells #[.pointer (some ⟨1, 36, none⟩), .pointer (some ⟨w.heap.size, 0, none⟩), .int .u64 150] 44)).alloc (.cells #[.pointer (some e)] 26))
    (by rw [World.cell?_alloc_at _ _ _ _ (by simp)]; rfl)
    (by rw [World.cell?_alloc_lt _ _ t (by simp; omega), World.cell?_alloc_lt _ _ t (by simp; omega), World.cell?_alloc_lt _ _ t (by simp; omega), World.cell?_alloc_lt _ _ t htl]; exact ht0)
    (by rw [World.frozen?_alloc_old _ _ t (by simp; omega), World.frozen?_alloc_old _ _ t (by simp; omega), World.frozen?_alloc_old _ _ t (by simp; omega), World.frozen?_alloc_old _ _ t (Nat.ne_of_lt htl)]; exact hf0)
  go_enter Tryd.func11, Tryd.ntmps11
  go_wp2
  refine wp_loop_rounds 1 ?_
  rw [rounds_succ]
  go_wp2
  go_ret
  exact ⟨rfl, rfl⟩

set_option maxHeartbeats 4000000 in
theorem as_hit32 (e t : Addr) (old : Value) (w : World) (hg : w.cell? ⟨0, 0, none⟩ = some (.iface 54 (.agg #[.pointer (some ⟨1, 28, none⟩)]))) (ht0 : w.cell? t = some old) (hf0 : w.frozen? t = false) :
    Calls Tryd.prog 11 #[.iface 32 (.pointer (some e)), .iface 37 (.pointer (some t))] w fun ev w' => ev = .returned (.bool true) ∧ w' = ((((w.alloc (.cells #[.pointer (some t)] 37)).alloc (.cells #[.pointer (some ⟨1, 37, none⟩), .pointer (some ⟨w.heap.size, 0, none⟩), .int .u64 150] 44)).alloc (.cells #[.pointer (some ⟨1, 37, none⟩), .pointer (some ⟨w.heap.size, 0, none⟩), .int .u64 150] 44)).alloc (.cells #[.pointer (some e)] 32)).setCell t (.pointer (some e)) := by
  have h12 := @run_callFunc_extern Tryd.prog 12 _ (fun args => ReflectliteValue.unpack (args.getD 0 (.tuple #[]))) Tryd.func12 (by kernel_rfl) (by kernel_rfl) (by kernel_rfl) (by kernel_rfl)
  have h13 := @run_callFunc_extern Tryd.prog 13 _ (ReflectliteValue.methodAny (ReflectliteValue.valueError "reflectlite.Value.Type" 0) (fun t _ _ _ => ReflectliteType.toType t)) Tryd.func13 (by kernel_rfl) (by kernel_rfl) (by kernel_rfl) (by kernel_rfl)
  have h14 := @run_callFunc_extern Tryd.prog 14 _ (ReflectliteValue.method (ReflectliteValue.valueError "reflectlite.Value.IsNil" 0) ReflectliteValue.isNil) Tryd.func14 (by kernel_rfl) (by kernel_rfl) (by kernel_rfl) (by kernel_rfl)
  have h33 := @run_callFunc_extern Tryd.prog 33 _ (ReflectliteType.abiMethod fun t => do pure (.int .u8 (← Rtype.kind t))) Tryd.func33 (by kernel_rfl) (by kernel_rfl) (by kernel_rfl) (by kernel_rfl)
  have h45 := @run_callFunc_extern Tryd.prog 45 _ (ReflectliteType.method ReflectliteType.elem) Tryd.func45 (by kernel_rfl) (by kernel_rfl) (by kernel_rfl) (by kernel_rfl)
  have h46 := @run_callFunc_extern Tryd.prog 46 _ (ReflectliteType.relation "Implements" ReflectliteType.implements_) Tryd.func46 (by kernel_rfl) (by kernel_rfl) (by kernel_rfl) (by kernel_rfl)
  have h16 := @run_callFunc_extern Tryd.prog 16 _ ReflectliteType.typeOf Tryd.func16 (by kernel_rfl) (by kernel_rfl) (by kernel_rfl) (by kernel_rfl)
  have h43 := @run_callFunc_extern Tryd.prog 43 _ (ReflectliteType.relation "AssignableTo" ReflectliteType.assignableTo) Tryd.func43 (by kernel_rfl) (by kernel_rfl) (by kernel_rfl) (by kernel_rfl)
  have mK := methodKind
  have mE := methodElem
  have mI := methodImplements
  have mA := methodAssignableTo
  have h17 := @run_callFunc_extern Tryd.prog 17 _ (ReflectliteValue.method (ReflectliteValue.valueError "reflectlite.Value.Elem" 0) ReflectliteValue.elem) Tryd.func17 (by kernel_rfl) (by kernel_rfl) (by kernel_rfl) (by kernel_rfl)
  have h18 := @run_callFunc_extern Tryd.prog 18 _ ReflectliteValue.set Tryd.func18 (by kernel_rfl) (by kernel_rfl) (by kernel_rfl) (by kernel_rfl)
  have tO := typeOf32
  have aT := assignable32_32
  have vT := valueOf32
  have f12 := valueOf37
  have f13 := type37
  have kTT := kind37
  have kT := kind32
  have eTT := elem37
  have iT := implements32
  have n14 := isNil37 ⟨w.heap.size, 0, none⟩ t ((w.alloc (.cells #[.pointer (some t)] 37)).alloc (.cells #[.pointer (some ⟨1, 37, none⟩), .pointer (some ⟨w.heap.size, 0, none⟩), .int .u64 150] 44)) (by simp)
  have hlt : 0 < w.heap.size := by
    rcases Nat.eq_zero_or_pos w.heap.size with h0 | h
    · simp [World.cell?, h0] at hg
    · exact h
  have hg2 : ((w.alloc (.cells #[.pointer (some t)] 37)).alloc (.cells #[.pointer (some ⟨1, 37, none⟩), .pointer (some ⟨w.heap.size, 0, none⟩), .int .u64 150] 44)).cell? ⟨0, 0, none⟩ = some (.iface 54 (.agg #[.pointer (some ⟨1, 28, none⟩)])) := by
    rw [World.cell?_alloc_lt _ _ ⟨0, 0, none⟩ (by simp), World.cell?_alloc_lt _ _ ⟨0, 0, none⟩ hlt]; exact hg
  have htl : t.block < w.heap.size := by
    rcases Nat.lt_or_ge t.block w.heap.size with h | h
    · exact h
    · simp [World.cell?, Array.getElem?_eq_none h] at ht0
  have el := elemV37 ⟨w.heap.size, 0, none⟩ t (((w.alloc (.cells #[.pointer (some t)] 37)).alloc (.cells #[.pointer (some ⟨1, 37, none⟩), .pointer (some ⟨w.heap.size, 0, none⟩), .int .u64 150] 44)).alloc (.cells #[.pointer (some ⟨1, 37, none⟩), .pointer (some ⟨w.heap.size, 0, none⟩), .int .u64 150] 44)) (by rw [World.cell?_alloc_lt _ _ ⟨w.heap.size, 0, none⟩ (by simp; omega)]; simp)
  have st := set32 t ⟨w.heap.size + 1 + 1 + 1, 0, none⟩ e old ((((w.alloc (.cells #[.pointer (some t)] 37)).alloc (.cells #[.pointer (some ⟨1, 37, none⟩), .pointer (some ⟨w.heap.size, 0, none⟩), .int .u64 150] 44)).alloc (.cells #[.pointer (some ⟨1, 37, none⟩), .pointer (some ⟨w.heap.size, 0, none⟩), .int .u64 150] 44)).alloc (.cells #[.pointer (some e)] 32))
    (by rw [World.cell?_alloc_at _ _ _ _ (by simp)]; rfl)
    (by rw [World.cell?_alloc_lt _ _ t (by simp; omega), World.cell?_alloc_lt _ _ t (by simp; omega), World.cell?_alloc_lt _ _ t (by simp; omega), World.cell?_alloc_lt _ _ t htl]; exact ht0)
    (by rw [World.frozen?_alloc_old _ _ t (by simp; omega), World.frozen?_alloc_old _ _ t (by simp; omega), World.frozen?_alloc_old _ _ t (by simp; omega), World.frozen?_alloc_old _ _ t (Nat.ne_of_lt htl)]; exact hf0)
  go_enter Tryd.func11, Tryd.ntmps11
  go_wp2
  refine wp_loop_rounds 1 ?_
  rw [rounds_succ]
  go_wp2
  go_ret
  exact ⟨rfl, rfl⟩
end Go.Proofs.Qxb6616470aDoor
