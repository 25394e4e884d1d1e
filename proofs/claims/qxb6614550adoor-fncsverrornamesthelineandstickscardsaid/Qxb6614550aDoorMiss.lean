import Derived.Test.Qxb6614550aDoorAs
namespace Go.Proofs.Qxb6614550aDoor
open Go.RowKit Go.Extern.Stop Go.Stop Go.Extern

theorem Tryd.rtypeOf34 (v : Value) (w : World) : (ReflectliteType.typeOf #[.iface 34 v]).run Tryd.prog w = .ok (.iface 76 (.agg #[.pointer (some ⟨2, 34, none⟩)])) w := by kernel_rfl
theorem Tryd.rassignable34 (w : World) : (ReflectliteType.relation "AssignableTo" ReflectliteType.assignableTo #[.agg #[.pointer (some ⟨2, 34, none⟩)], .iface 76 (.agg #[.pointer (some ⟨2, 51, none⟩)])]).run Tryd.prog w = .ok (.bool false) w := by kernel_rfl
theorem Tryd.rnoAs34 (v : Value) (xT : TypeId) (w : World) : (Instr.typeAssert (.iface 34 v) xT 81 true).run Tryd.prog w = .ok (.tuple #[.nilIface, .bool false]) w := run_typeAssert_lacksB Tryd.underlying81 (by kernel_rfl) (by kernel_rfl) v xT w
theorem Tryd.rhasUnwrap34 (v : Value) (xT : TypeId) (w : World) : (Instr.typeAssert (.iface 34 v) xT 84 true).run Tryd.prog w = .ok (.tuple #[.iface 34 v, .bool true]) w := run_typeAssert_hasB Tryd.underlying84 (by kernel_rfl) v xT w
theorem Tryd.rmethodUnwrap34 (a : Addr) (w : World) : (Go.method 219 34 (.pointer (some a)) "Unwrap").run Tryd.prog w = .ok (45, .pointer (some a)) w := by kernel_rfl

set_option maxHeartbeats 8000000 in
set_option maxRecDepth 100000 in
theorem as_miss (P1 P2 : Nat) (t : Addr) (w : World) (hg : w.cell? ⟨1, 0, none⟩ = some (.iface 76 (.agg #[.pointer (some ⟨2, 36, none⟩)]))) (c1 : w.cell? ⟨P1, 2, none⟩ = some (.iface 34 (.pointer (some ⟨P2, 0, none⟩)))) (c2 : w.cell? ⟨P2, 2, none⟩ = some .nilIface) :
    Calls Tryd.prog 18 #[.iface 34 (.pointer (some ⟨P1, 0, none⟩)), .iface 61 (.pointer (some t))] w fun ev w' => ev = .returned (.bool false) ∧ w' = (((w.alloc (.cells #[.pointer (some t)] 61)).alloc (.cells #[.pointer (some ⟨2, 61, none⟩), .pointer (some ⟨w.heap.size, 0, none⟩), .int .u64 150] 65)).alloc (.cells #[.pointer (some ⟨2, 61, none⟩), .pointer (some ⟨w.heap.size, 0, none⟩), .int .u64 150] 65)) := by
  have h6 := @run_callFunc_extern Tryd.prog 19 _ (fun args => ReflectliteValue.unpack (args.getD 0 (.tuple #[]))) Tryd.func19 (by kernel_rfl) (by kernel_rfl) (by kernel_rfl) (by kernel_rfl)
  have h7 := @run_callFunc_extern Tryd.prog 20 _ (ReflectliteValue.methodAny (ReflectliteValue.valueError "reflectlite.Value.Type" 0) (fun t _ _ _ => ReflectliteType.toType t)) Tryd.func20 (by kernel_rfl) (by kernel_rfl) (by kernel_rfl) (by kernel_rfl)
  have h8 := @run_callFunc_extern Tryd.prog 21 _ (ReflectliteValue.method (ReflectliteValue.valueError "reflectlite.Value.IsNil" 0) ReflectliteValue.isNil) Tryd.func21 (by kernel_rfl) (by kernel_rfl) (by kernel_rfl) (by kernel_rfl)
  have h27 := @run_callFunc_extern Tryd.prog 40 _ (ReflectliteType.abiMethod fun t => do pure (.int .u8 (← Rtype.kind t))) Tryd.func40 (by kernel_rfl) (by kernel_rfl) (by kernel_rfl) (by kernel_rfl)
  have h37 := @run_callFunc_extern Tryd.prog 54 _ (ReflectliteType.method ReflectliteType.elem) Tryd.func54 (by kernel_rfl) (by kernel_rfl) (by kernel_rfl) (by kernel_rfl)
  have h38 := @run_callFunc_extern Tryd.prog 55 _ (ReflectliteType.relation "Implements" ReflectliteType.implements_) Tryd.func55 (by kernel_rfl) (by kernel_rfl) (by kernel_rfl) (by kernel_rfl)
  have h10 := @run_callFunc_extern Tryd.prog 23 _ ReflectliteType.typeOf Tryd.func23 (by kernel_rfl) (by kernel_rfl) (by kernel_rfl) (by kernel_rfl)
  have h35 := @run_callFunc_extern Tryd.prog 52 _ (ReflectliteType.relation "AssignableTo" ReflectliteType.assignableTo) Tryd.func52 (by kernel_rfl) (by kernel_rfl) (by kernel_rfl) (by kernel_rfl)
  have h11 := @run_callFunc_extern Tryd.prog 24 _ (ReflectliteValue.method (ReflectliteValue.valueError "reflectlite.Value.Elem" 0) ReflectliteValue.elem) Tryd.func24 (by kernel_rfl) (by kernel_rfl) (by kernel_rfl) (by kernel_rfl)
  have h12 := @run_callFunc_extern Tryd.prog 25 _ ReflectliteValue.set Tryd.func25 (by kernel_rfl) (by kernel_rfl) (by kernel_rfl) (by kernel_rfl)
  have tO := Tryd.rtypeOf34
  have mA := Tryd.rmethodAssignableTo
  have a34 := Tryd.rassignable34
  have nA := Tryd.rnoAs34
  have hU := Tryd.rhasUnwrap34
  have mU := Tryd.rmethodUnwrap34
  have f6 := Tryd.rvalueOf61
  have f7 := Tryd.rtype61
  have mK := Tryd.rmethodKind
  have mE := Tryd.rmethodElem
  have mI := Tryd.rmethodImplements
  have k27 := Tryd.rkind61
  have k25 := Tryd.rkind51
  have e27 := Tryd.relem61
  have i25 := Tryd.rimplements51
  have n8 := Tryd.risNil61 ⟨w.heap.size, 0, none⟩ t ((w.alloc (.cells #[.pointer (some t)] 61)).alloc (.cells #[.pointer (some ⟨2, 61, none⟩), .pointer (some ⟨w.heap.size, 0, none⟩), .int .u64 150] 65)) (by simp)
  have hlt : 1 < w.heap.size := cell_lt hg
  have hP1 : P1 < w.heap.size := cell_lt c1
  have hP2 : P2 < w.heap.size := cell_lt c2
  have hg2 : ((w.alloc (.cells #[.pointer (some t)] 61)).alloc (.cells #[.pointer (some ⟨2, 61, none⟩), .pointer (some ⟨w.heap.size, 0, none⟩), .int .u64 150] 65)).cell? ⟨1, 0, none⟩ = some (.iface 76 (.agg #[.pointer (some ⟨2, 36, none⟩)])) := by
    rw [World.cell?_alloc_lt _ _ ⟨1, 0, none⟩ (by simp; omega), World.cell?_alloc_lt _ _ ⟨1, 0, none⟩ hlt]; exact hg
  have c1' : (((w.alloc (.cells #[.pointer (some t)] 61)).alloc (.cells #[.pointer (some ⟨2, 61, none⟩), .pointer (some ⟨w.heap.size, 0, none⟩), .int .u64 150] 65)).alloc (.cells #[.pointer (some ⟨2, 61, none⟩), .pointer (some ⟨w.heap.size, 0, none⟩), .int .u64 150] 65)).cell? ⟨P1, 2, none⟩ = some (.iface 34 (.pointer (some ⟨P2, 0, none⟩))) := by
    rw [World.cell?_alloc_lt _ _ ⟨P1, 2, none⟩ (by simp; omega), World.cell?_alloc_lt _ _ ⟨P1, 2, none⟩ (by simp; omega), World.cell?_alloc_lt _ _ ⟨P1, 2, none⟩ hP1]; exact c1
  have c2' : (((w.alloc (.cells #[.pointer (some t)] 61)).alloc (.cells #[.pointer (some ⟨2, 61, none⟩), .pointer (some ⟨w.heap.size, 0, none⟩), .int .u64 150] 65)).alloc (.cells #[.pointer (some ⟨2, 61, none⟩), .pointer (some ⟨w.heap.size, 0, none⟩), .int .u64 150] 65)).cell? ⟨P2, 2, none⟩ = some .nilIface := by
    rw [World.cell?_alloc_lt _ _ ⟨P2, 2, none⟩ (by simp; omega), World.cell?_alloc_lt _ _ ⟨P2, 2, none⟩ (by simp; omega), World.cell?_alloc_lt _ _ ⟨P2, 2, none⟩ hP2]; exact c2
  go_enter Tryd.func18, Tryd.ntmps18
  go_wp2
  refine wp_loop_rounds 2 ?_
  rw [rounds_succ]
  go_wp2
  rw [rounds_succ]
  go_wp2
  go_ret
  exact ⟨rfl, rfl⟩
end Go.Proofs.Qxb6614550aDoor
