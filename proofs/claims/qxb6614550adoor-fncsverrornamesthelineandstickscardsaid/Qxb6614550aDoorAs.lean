/-
  Seat b6614550aD: errors.As at the target '**csv.ParseError' by its contracts, after the kit's worked example 'Toyas', turned to this program's numbers.
-/
import Derived.Test.Qxb6614550aDoorRows
import Derived.WalkKit
import Derived.WalkSpells
import Derived.WalkLawsBesides
import Derived.LaidEql
import Derived.Stop.Asserts
import Derived.RowKitTokens
namespace Go.Proofs.Qxb6614550aDoor
open Go.RowKit Go.Extern.Stop Go.Stop Go.Extern

theorem cell_lt {w : World} {a : Addr} {v : Value} (h : w.cell? a = some v) : a.block < w.heap.size := by
  rcases Nat.lt_or_ge a.block w.heap.size with h' | h'
  · exact h'
  · simp [World.cell?, Array.getElem?_eq_none h'] at h


theorem Tryd.rvalueOf61 (t : Addr) (w : World) : (ReflectliteValue.unpack (.iface 61 (.pointer (some t)))).run Tryd.prog w
    = .ok (.agg #[.pointer (some ⟨2, 61, none⟩), .pointer (some ⟨w.heap.size, 0, none⟩), .int .u64 150]) (w.alloc (.cells #[.pointer (some t)] 61)) := by kernel_rfl
theorem Tryd.rtype61 (a : Addr) (w : World) : (ReflectliteValue.methodAny (ReflectliteValue.valueError "reflectlite.Value.Type" 0) (fun t _ _ _ => ReflectliteType.toType t) #[.agg #[.pointer (some ⟨2, 61, none⟩), .pointer (some a), .int .u64 150]]).run Tryd.prog w
    = .ok (.iface 76 (.agg #[.pointer (some ⟨2, 61, none⟩)])) w := by kernel_rfl
theorem Tryd.rmethodKind (h : Value) (w : World) : (Go.method 219 76 (.agg #[h]) "Kind").run Tryd.prog w = .ok (40, h) w := by kernel_rfl
theorem Tryd.rkind61 (w : World) : ((ReflectliteType.abiMethod fun t => (fun a : Nat => Value.int IntKind.u8 (a : Int)) <$> Rtype.kind t) #[.pointer (some ⟨2, 61, none⟩)]).run Tryd.prog w = .ok (.int .u8 22) w := by kernel_rfl
theorem Tryd.rkind51 (w : World) : ((ReflectliteType.abiMethod fun t => (fun a : Nat => Value.int IntKind.u8 (a : Int)) <$> Rtype.kind t) #[.pointer (some ⟨2, 51, none⟩)]).run Tryd.prog w = .ok (.int .u8 22) w := by kernel_rfl


theorem rlm (z : Sem Value) (f : TypeId → Addr → Nat → Nat → Sem Value) (v : Value) :
    ReflectliteValue.method z f #[v] = (do match ← ReflectliteValue.parts v with | none => z | some (t, a, fl) => f t a fl (fl % 32)) := rfl
theorem Tryd.rparts61 (a : Addr) (w : World) : (ReflectliteValue.parts (.agg #[.pointer (some ⟨2, 61, none⟩), .pointer (some a), .int .u64 150])).run Tryd.prog w = .ok (some (61, a, 150)) w := by kernel_rfl
/-- (Value).IsNil at the Value of a **p.E that is not nil. -/
theorem Tryd.risNil61 (a p : Addr) (W : World) (ha : W.cell? a = some (.pointer (some p))) :
    (ReflectliteValue.method (ReflectliteValue.valueError "reflectlite.Value.IsNil" 0) ReflectliteValue.isNil #[.agg #[.pointer (some ⟨2, 61, none⟩), .pointer (some a), .int .u64 150]]).run Tryd.prog W = .ok (.bool false) W := by
  rw [rlm]
  simp only [Sem.run_bind, Tryd.rparts61, Result.andThen]
  simp [ReflectliteValue.isNil, loadVar, isAgg, underlying, Tryd.underlying61, ha, Result.andThen]

theorem Tryd.rmethodElem (h : Value) (w : World) : (Go.method 219 76 (.agg #[h]) "Elem").run Tryd.prog w = .ok (54, .agg #[h]) w := by kernel_rfl
theorem Tryd.rmethodImplements (h : Value) (w : World) : (Go.method 219 76 (.agg #[h]) "Implements").run Tryd.prog w = .ok (55, .agg #[h]) w := by kernel_rfl
theorem Tryd.rmethodAssignableTo (h : Value) (w : World) : (Go.method 219 76 (.agg #[h]) "AssignableTo").run Tryd.prog w = .ok (52, .agg #[h]) w := by kernel_rfl
theorem Tryd.relem61 (w : World) : (ReflectliteType.method ReflectliteType.elem #[.agg #[.pointer (some ⟨2, 61, none⟩)]]).run Tryd.prog w = .ok (.iface 76 (.agg #[.pointer (some ⟨2, 51, none⟩)])) w := by kernel_rfl
theorem Tryd.rimplements51 (w : World) : (ReflectliteType.relation "Implements" ReflectliteType.implements_ #[.agg #[.pointer (some ⟨2, 51, none⟩)], .iface 76 (.agg #[.pointer (some ⟨2, 36, none⟩)])]).run Tryd.prog w = .ok (.bool true) w := by kernel_rfl
theorem Tryd.rtypeOf51 (v : Value) (w : World) : (ReflectliteType.typeOf #[.iface 51 v]).run Tryd.prog w = .ok (.iface 76 (.agg #[.pointer (some ⟨2, 51, none⟩)])) w := by kernel_rfl
theorem Tryd.rassignable51 (w : World) : (ReflectliteType.relation "AssignableTo" ReflectliteType.assignableTo #[.agg #[.pointer (some ⟨2, 51, none⟩)], .iface 76 (.agg #[.pointer (some ⟨2, 51, none⟩)])]).run Tryd.prog w = .ok (.bool true) w := by kernel_rfl
theorem Tryd.rvalueOf51 (e : Addr) (w : World) : (ReflectliteValue.unpack (.iface 51 (.pointer (some e)))).run Tryd.prog w
    = .ok (.agg #[.pointer (some ⟨2, 51, none⟩), .pointer (some ⟨w.heap.size, 0, none⟩), .int .u64 150]) (w.alloc (.cells #[.pointer (some e)] 51)) := by kernel_rfl

theorem Tryd.relemOf61 (w : World) : (Rtype.elem? 61).run Tryd.prog w = .ok (some 51) w := by kernel_rfl
theorem Tryd.rmk51 (p : Addr) (w : World) : (ReflectliteValue.mk 51 p ReflectliteValue.flagAddr).run Tryd.prog w = .ok (.agg #[.pointer (some ⟨2, 51, none⟩), .pointer (some p), .int .u64 406]) w := by kernel_rfl
/-- (Value).Elem at the Value of a **p.E that is not nil: the Value of the *p.E variable that it points to, addressable. -/
theorem Tryd.relemV61 (a p : Addr) (W : World) (ha : W.cell? a = some (.pointer (some p))) :
    (ReflectliteValue.method (ReflectliteValue.valueError "reflectlite.Value.Elem" 0) ReflectliteValue.elem #[.agg #[.pointer (some ⟨2, 61, none⟩), .pointer (some a), .int .u64 150]]).run Tryd.prog W
      = .ok (.agg #[.pointer (some ⟨2, 51, none⟩), .pointer (some p), .int .u64 406]) W := by
  rw [rlm]
  simp only [Sem.run_bind, Tryd.rparts61, Result.andThen]
  simp [ReflectliteValue.elem, loadVar, isAgg, underlying, Tryd.underlying61, ha, Result.andThen, Tryd.relemOf61, Tryd.rmk51]
theorem rls (v x : Value) : ∃ s1 s2 s3 s4 s5, ReflectliteValue.set #[v, x] = (do
    let (some (dst, a, fl), some (src, b, _)) := (← ReflectliteValue.parts v, ← ReflectliteValue.parts x)
      | unsupported (.noEntry s1)
    if fl / ReflectliteValue.flagAddr % 2 == 0 then unsupported (.noEntry s2)
    let val ← loadVar src b
    if ← Rtype.directlyAssignable dst src then storeVar dst a val
    else if ← Rtype.implements dst src then
      if (← Rtype.kind src) == 20 then
        match val with
        | .nilIface => unsupported (.noEntry s3)
        | _ => storeVar dst a val
      else storeVar dst a (.iface src val)
    else panicString (s4 ++ (← Rtype.spelt src) ++ s5 ++ (← Rtype.spelt dst))
    pure (.tuple #[])) := ⟨_, _, _, _, _, rfl⟩
theorem Tryd.rparts51a (a : Addr) (w : World) : (ReflectliteValue.parts (.agg #[.pointer (some ⟨2, 51, none⟩), .pointer (some a), .int .u64 406])).run Tryd.prog w = .ok (some (51, a, 406)) w := by kernel_rfl
theorem Tryd.rparts51 (a : Addr) (w : World) : (ReflectliteValue.parts (.agg #[.pointer (some ⟨2, 51, none⟩), .pointer (some a), .int .u64 150])).run Tryd.prog w = .ok (some (51, a, 150)) w := by kernel_rfl
theorem Tryd.rdirect51 (w : World) : (Rtype.directlyAssignable 51 51).run Tryd.prog w = .ok true w := by kernel_rfl
theorem Tryd.rsize51 (w : World) : (sizeOf 51).run Tryd.prog w = .ok 1 w := by kernel_rfl
/-- (Value).Set: the *p.E variable at 'ta' gets what the Value's own variable 'b' holds. -/
theorem Tryd.rset51 (ta b e : Addr) (old : Value) (W : World) (hb : W.cell? b = some (.pointer (some e))) (ht : W.cell? ta = some old) (hf : W.frozen? ta = false) :
    (ReflectliteValue.set #[.agg #[.pointer (some ⟨2, 51, none⟩), .pointer (some ta), .int .u64 406], .agg #[.pointer (some ⟨2, 51, none⟩), .pointer (some b), .int .u64 150]]).run Tryd.prog W
      = .ok (.tuple #[]) (W.setCell ta (.pointer (some e))) := by
  obtain ⟨s1, s2, s3, s4, s5, hs⟩ := rls (.agg #[.pointer (some ⟨2, 51, none⟩), .pointer (some ta), .int .u64 406]) (.agg #[.pointer (some ⟨2, 51, none⟩), .pointer (some b), .int .u64 150])
  rw [hs]
  simp only [Sem.run_bind, Tryd.rparts51a, Tryd.rparts51, Result.andThen]
  simp [ReflectliteValue.flagAddr, loadVar, isAgg, underlying, Tryd.underlying51, hb, Result.andThen, Tryd.rdirect51, storeVar, Value.cells, storeCells, Addr.add]
  rw [run_store Tryd.prog W ta _ _ (by rfl)]
  simp [ht, hf]

set_option maxHeartbeats 4000000 in
theorem as_hit (e t : Addr) (old : Value) (w : World) (hg : w.cell? ⟨1, 0, none⟩ = some (.iface 76 (.agg #[.pointer (some ⟨2, 36, none⟩)]))) (ht0 : w.cell? t = some old) (hf0 : w.frozen? t = false) :
    Calls Tryd.prog 18 #[.iface 51 (.pointer (some e)), .iface 61 (.pointer (some t))] w fun ev w' => ev = .returned (.bool true) ∧ w' = ((((w.alloc (.cells #[.pointer (some t)] 61)).alloc (.cells #[.pointer (some ⟨2, 61, none⟩), .pointer (some ⟨w.heap.size, 0, none⟩), .int .u64 150] 65)).alloc (.cells #[.pointer (some ⟨2, 61, none⟩), .pointer (some ⟨w.heap.size, 0, none⟩), .int .u64 150] 65)).alloc (.cells #[.pointer (some e)] 51)).setCell t (.pointer (some e)) := by
  have h6 := @run_callFunc_extern Tryd.prog 19 _ (fun args => ReflectliteValue.unpack (args.getD 0 (.tuple #[]))) Tryd.func19 (by kernel_rfl) (by kernel_rfl) (by kernel_rfl) (by kernel_rfl)
  have h7 := @run_callFunc_extern Tryd.prog 20 _ (ReflectliteValue.methodAny (ReflectliteValue.valueError "reflectlite.Value.Type" 0) (fun t _ _ _ => ReflectliteType.toType t)) Tryd.func20 (by kernel_rfl) (by kernel_rfl) (by kernel_rfl) (by kernel_rfl)
  have h8 := @run_callFunc_extern Tryd.prog 21 _ (ReflectliteValue.method (ReflectliteValue.valueError "reflectlite.Value.IsNil" 0) ReflectliteValue.isNil) Tryd.func21 (by kernel_rfl) (by kernel_rfl) (by kernel_rfl) (by kernel_rfl)
  have h27 := @run_callFunc_extern Tryd.prog 40 _ (ReflectliteType.abiMethod fun t => do pure (.int .u8 (← Rtype.kind t))) Tryd.func40 (by kernel_rfl) (by kernel_rfl) (by kernel_rfl) (by kernel_rfl)
  have h37 := @run_callFunc_extern Tryd.prog 54 _ (ReflectliteType.method ReflectliteType.elem) Tryd.func54 (by kernel_rfl) (by kernel_rfl) (by kernel_rfl) (by kernel_rfl)
  have h38 := @run_callFunc_extern Tryd.prog 55 _ (ReflectliteType.relation "Implements" ReflectliteType.implements_) Tryd.func55 (by kernel_rfl) (by kernel_rfl) (by kernel_rfl) (by kernel_rfl)
  have h10 := @run_callFunc_extern Tryd.prog 23 _ ReflectliteType.typeOf Tryd.func23 (by kernel_rfl) (by kernel_rfl) (by kernel_rfl) (by kernel_rfl)
  have h35 := @run_callFunc_extern Tryd.prog 52 _ (ReflectliteType.relation "AssignableTo" ReflectliteType.assignableTo) Tryd.func52 (by kernel_rfl) (by kernel_rfl) (by kernel_rfl) (by kernel_rfl)
  have h11 := @run_callFunc_extern Tryd.prog 24 _ (ReflectliteValue.method (ReflectliteValue.valueError "reflectlite.Value.Elem" 0) ReflectliteValue.elem) Tryd.func24 (by kernel_rfl) (by kernel_rfl) (by kernel_rfl) (by kernel_rfl)
  have h12 := @run_callFunc_extern Tryd.prog 25 _ ReflectliteValue.set Tryd.func25 (by kernel_rfl) (by kernel_rfl) (by kernel_rfl) (by kernel_rfl)
  have tO := Tryd.rtypeOf51
  have mA := Tryd.rmethodAssignableTo
  have a25 := Tryd.rassignable51
  have v25 := Tryd.rvalueOf51
  have f6 := Tryd.rvalueOf61
  have f7 := Tryd.rtype61
  have mK := Tryd.rmethodKind
  have mE := Tryd.rmethodElem
  have mI := Tryd.rmethodImplements
  have k27 := Tryd.rkind61
  have k25 := Tryd.rkind51
  have e27 := Tryd.relem61
  have i25 := Tryd.rimplements51
  have n8 := Tryd.risNil61 ⟨w.heap.size, 0, none⟩ t ((w.alloc (.cells #[.pointer (some t)] 61)).alloc (.cells #[.pointer (some ⟨2, 61, none⟩), .pointer (some ⟨w.heap.size, 0, none⟩), .int .u64 150] 65)) (by simp)
  have hlt : 1 < w.heap.size := cell_lt hg
  have hg2 : ((w.alloc (.cells #[.pointer (some t)] 61)).alloc (.cells #[.pointer (some ⟨2, 61, none⟩), .pointer (some ⟨w.heap.size, 0, none⟩), .int .u64 150] 65)).cell? ⟨1, 0, none⟩ = some (.iface 76 (.agg #[.pointer (some ⟨2, 36, none⟩)])) := by
    rw [World.cell?_alloc_lt _ _ ⟨1, 0, none⟩ (by simp; omega), World.cell?_alloc_lt _ _ ⟨1, 0, none⟩ hlt]; exact hg
  have htl : t.block < w.heap.size := cell_lt ht0
  have el := Tryd.relemV61 ⟨w.heap.size, 0, none⟩ t (((w.alloc (.cells #[.pointer (some t)] 61)).alloc (.cells #[.pointer (some ⟨2, 61, none⟩), .pointer (some ⟨w.heap.size, 0, none⟩), .int .u64 150] 65)).alloc (.cells #[.pointer (some ⟨2, 61, none⟩), .pointer (some ⟨w.heap.size, 0, none⟩), .int .u64 150] 65)) (by rw [World.cell?_alloc_lt _ _ ⟨w.heap.size, 0, none⟩ (by simp; omega)]; simp)
  have st := Tryd.rset51 t ⟨w.heap.size + 1 + 1 + 1, 0, none⟩ e old ((((w.alloc (.cells #[.pointer (some t)] 61)).alloc (.cells #[.pointer (some ⟨2, 61, none⟩), .pointer (some ⟨w.heap.size, 0, none⟩), .int .u64 150] 65)).alloc (.cells #[.pointer (some ⟨2, 61, none⟩), .pointer (some ⟨w.heap.size, 0, none⟩), .int .u64 150] 65)).alloc (.cells #[.pointer (some e)] 51))
    (by rw [World.cell?_alloc_at _ _ _ _ (by simp)]; rfl)
    (by rw [World.cell?_alloc_lt _ _ t (by simp; omega), World.cell?_alloc_lt _ _ t (by simp; omega), World.cell?_alloc_lt _ _ t (by simp; omega), World.cell?_alloc_lt _ _ t htl]; exact ht0)
    (by rw [World.frozen?_alloc_old _ _ t (by simp; omega), World.frozen?_alloc_old _ _ t (by simp; omega), World.frozen?_alloc_old _ _ t (by simp; omega), World.frozen?_alloc_old _ _ t (Nat.ne_of_lt htl)]; exact hf0)
  go_enter Tryd.func18, Tryd.ntmps18
  go_wp2
  refine wp_loop_rounds 1 ?_
  rw [rounds_succ]
  go_wp2
  go_ret
  exact ⟨rfl, rfl⟩
end Go.Proofs.Qxb6614550aDoor
