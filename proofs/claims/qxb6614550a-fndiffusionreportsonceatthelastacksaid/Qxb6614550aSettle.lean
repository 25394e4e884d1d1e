import Derived.Test.Qxb6614550aBase
namespace Go.Proofs.Qxb6614550a
open Go.RowKit

theorem setBlk {w : World} {g : Nat} {cs : Array Value} {t : TypeId} (h : w.heap[g]? = some (.cells cs t (0, 0))) (i : Nat) (v : Value) {cs' : Array Value} (hc : cs.setIfInBounds i v = cs') : (w.setCell ⟨g, i, none⟩ v).heap[g]? = some (.cells cs' t (0, 0)) := by
  rw [heap_setCell_same w g i cs t v h, hc]
theorem keepBlk {w : World} {g k : Nat} {o : Option Obj} (h : w.heap[k]? = o) (i : Nat) (v : Value) (hne : k ≠ g) : (w.setCell ⟨g, i, none⟩ v).heap[k]? = o :=
  (Below.heap_setCell w ⟨g, i, none⟩ v k hne).trans h

set_option maxHeartbeats 800000 in
/-- The ack that records. -/
theorem ack16 (V R : Nat) (to par : ByteArray) (acks : Int) (unk eng' u g : Bool) (ends : Int) (eu : Bool) (w : World) (b0 : 0 ≤ acks) (b1 : acks < 1000000)
    (bV : w.heap[V]? = some (.cells #[.pointer (some ⟨R, 0, none⟩)] 42 (0, 0)))
    (bR : w.heap[R]? = some (.cells #[.int .i64 acks, .string to, .bool unk, .bool eng', .int .i64 ends, .bool eu] 44 (0, 0))) (hne : V ≠ R) :
    Calls Try.prog 16 #[.string par, .bool u, .bool g, .pointer (some ⟨V, 0, none⟩)] w fun e w' => e = .returned (.tuple #[]) ∧ w'.heap[R]? = some (.cells #[.int .i64 (acks + 1), .string par, .bool u, .bool g, .int .i64 ends, .bool eu] 44 (0, 0)) ∧ ∀ D, Moved D R w w' := by
  have cV : w.cell? ⟨V, 0, none⟩ = some (.pointer (some ⟨R, 0, none⟩)) := by rw [cell_of_row w V 0 _ _ _ bV]; rfl
  have c0 : w.cell? ⟨R, 0, none⟩ = some (.int .i64 acks) := by rw [cell_of_row w R 0 _ _ _ bR]; rfl
  have c1 : w.cell? ⟨R, 1, none⟩ = some (.string to) := by rw [cell_of_row w R 1 _ _ _ bR]; rfl
  have c2 : w.cell? ⟨R, 2, none⟩ = some (.bool unk) := by rw [cell_of_row w R 2 _ _ _ bR]; rfl
  have c3 : w.cell? ⟨R, 3, none⟩ = some (.bool eng') := by rw [cell_of_row w R 3 _ _ _ bR]; rfl
  have f0 := frozen_of_row w R 0 _ _ bR
  have f1 := frozen_of_row w R 1 _ _ bR
  have f2 := frozen_of_row w R 2 _ _ bR
  have f3 := frozen_of_row w R 3 _ _ bR
  have hne' : R ≠ V := fun e => hne e.symm
  have HR : Hid (w.heap[R]? = some (.cells #[.int .i64 acks, .string to, .bool unk, .bool eng', .int .i64 ends, .bool eu] 44 (0, 0))) := bR
  clear bV bR
  go_enter Try.func16, Try.ntmps16
  go_wp2
  go_end0
  exact ⟨rfl, setBlk (setBlk (setBlk (setBlk HR.out 0 _ rfl) 1 _ rfl) 2 _ rfl) 3 _ rfl, fun D => ((((Moved.refl D R w).setR 0 _).setR 1 _).setR 2 _).setR 3 _⟩

set_option maxHeartbeats 800000 in
/-- The ended that records. -/
theorem end17 (V R : Nat) (to : ByteArray) (acks : Int) (unk eng' u : Bool) (ends : Int) (eu : Bool) (w : World) (b0 : 0 ≤ ends) (b1 : ends < 1000000)
    (bV : w.heap[V]? = some (.cells #[.pointer (some ⟨R, 0, none⟩)] 42 (0, 0)))
    (bR : w.heap[R]? = some (.cells #[.int .i64 acks, .string to, .bool unk, .bool eng', .int .i64 ends, .bool eu] 44 (0, 0))) (hne : V ≠ R) :
    Calls Try.prog 17 #[.bool u, .pointer (some ⟨V, 0, none⟩)] w fun e w' => e = .returned (.tuple #[]) ∧ w'.heap[R]? = some (.cells #[.int .i64 acks, .string to, .bool unk, .bool eng', .int .i64 (ends + 1), .bool u] 44 (0, 0)) ∧ ∀ D, Moved D R w w' := by
  have cV : w.cell? ⟨V, 0, none⟩ = some (.pointer (some ⟨R, 0, none⟩)) := by rw [cell_of_row w V 0 _ _ _ bV]; rfl
  have c4 : w.cell? ⟨R, 4, none⟩ = some (.int .i64 ends) := by rw [cell_of_row w R 4 _ _ _ bR]; rfl
  have c5 : w.cell? ⟨R, 5, none⟩ = some (.bool eu) := by rw [cell_of_row w R 5 _ _ _ bR]; rfl
  have f4 := frozen_of_row w R 4 _ _ bR
  have f5 := frozen_of_row w R 5 _ _ bR
  have hne' : R ≠ V := fun e => hne e.symm
  have HR : Hid (w.heap[R]? = some (.cells #[.int .i64 acks, .string to, .bool unk, .bool eng', .int .i64 ends, .bool eu] 44 (0, 0))) := bR
  clear bV bR
  go_enter Try.func17, Try.ntmps17
  go_wp2
  go_end0
  exact ⟨rfl, setBlk (setBlk HR.out 4 _ rfl) 5 _ rfl, fun D => ((Moved.refl D R w).setR 4 _).setR 5 _⟩

theorem neq_fn (V : Nat) (w : World) : (binOp .neq 47 (.func (.func 17) #[] #[.pointer (some ⟨V, 0, none⟩)]) .nilFunc).run Try.prog w = .ok (.bool true) w := by kernel_rfl
theorem neq_nil (w : World) : (binOp .neq 47 .nilFunc .nilFunc).run Try.prog w = .ok (.bool false) w := by kernel_rfl

section
variable (Z D V R : Nat) (eng : Bool) (par : ByteArray) (dbt : Bool) (acks : Int) (to : ByteArray) (unk eng' : Bool) (ends : Int) (eu : Bool) (w : World)

set_option maxHeartbeats 800000 in
/-- settle while messages remain. -/
theorem settle_more (es : Bool) (pend : Int) (hp : 0 < pend) (h : Dif w Z D V R es eng par pend dbt acks to unk eng' ends eu) :
    Calls Try.prog 21 #[.pointer (some ⟨D, 0, none⟩)] w fun e w' => e = .returned (.tuple #[]) ∧ w' = w := by
  have c4 : w.cell? ⟨D, 4, none⟩ = some (.int .i64 pend) := by rw [cell_of_row w D 4 _ _ _ h.bD]; rfl
  clear h
  go_enter Try.func21, Try.ntmps21
  go_wp2
  exact bodyPost_ret (v := .tuple #[]) (by simp [results, Try.results21, go_sem]) rfl ⟨rfl, rfl⟩

set_option maxHeartbeats 1600000 in
/-- settle at the root, nothing pending. -/
theorem settle_root (pend : Int) (hp : pend ≤ 0) (b0 : 0 ≤ ends) (b1 : ends < 1000000) (h : Dif w Z D V R true eng par pend dbt acks to unk eng' ends eu) :
    Calls Try.prog 21 #[.pointer (some ⟨D, 0, none⟩)] w fun e w' => e = .returned (.tuple #[]) ∧ Dif w' Z D V R false false par pend false acks to unk eng' (ends + 1) dbt ∧ Moved D R w w' := by
  have c1 : w.cell? ⟨D, 1, none⟩ = some (.func (.func 17) #[] #[.pointer (some ⟨V, 0, none⟩)]) := by rw [cell_of_row w D 1 _ _ _ h.bD]; rfl
  have c2 : w.cell? ⟨D, 2, none⟩ = some (.bool eng) := by rw [cell_of_row w D 2 _ _ _ h.bD]; rfl
  have c4 : w.cell? ⟨D, 4, none⟩ = some (.int .i64 pend) := by rw [cell_of_row w D 4 _ _ _ h.bD]; rfl
  have c5 : w.cell? ⟨D, 5, none⟩ = some (.bool dbt) := by rw [cell_of_row w D 5 _ _ _ h.bD]; rfl
  have f1 := frozen_of_row w D 1 _ _ h.bD
  have f2 := frozen_of_row w D 2 _ _ h.bD
  have f5 := frozen_of_row w D 5 _ _ h.bD
  have H : Hid (Dif w Z D V R true eng par pend dbt acks to unk eng' ends eu) := h
  clear h
  have nf := neq_fn
  have nn := neq_nil
  go_enter Try.func21, Try.ntmps21
  go_wp2_with fail
  refine (end17 V R to acks unk eng' dbt ends eu _ b0 b1 (keepBlk (keepBlk (keepBlk H.out.bV 2 _ H.out.VD) 5 _ H.out.VD) 1 _ H.out.VD) (keepBlk (keepBlk (keepBlk H.out.bR 2 _ (fun e => H.out.DR e.symm)) 5 _ (fun e => H.out.DR e.symm)) 1 _ (fun e => H.out.DR e.symm)) H.out.VR).mono ?_
  rintro e w' ⟨rfl, hR, hm⟩
  have hm1 : Moved D R w w' := ((((Moved.refl D R w).setD 2 _).setD 5 _).setD 1 _).trans (hm D)
  have hmw := hm w.heap.size
  have hD : w'.heap[D]? = some (.cells #[ackF V, .nilFunc, .bool false, .string par, .int .i64 pend, .bool false] 49 (0, 0)) := by
    rw [(hm (D + 1)).block D (by omega) H.out.DR]
    exact setBlk (setBlk (setBlk H.out.bD 2 _ rfl) 5 _ rfl) 1 _ rfl
  have hZ := (hm1.block Z H.out.ZD H.out.ZR).trans H.out.bZ
  have hV := (hm1.block V H.out.VD H.out.VR).trans H.out.bV
  clear hm hmw
  go_wp2
  exact bodyPost_ret (v := .tuple #[]) (by simp [results, Try.results21, go_sem]) rfl ⟨rfl, ⟨hZ, hD, hV, hR⟩, hm1⟩

set_option maxHeartbeats 1600000 in
/-- settle elsewhere, nothing pending. -/
theorem settle_ack (pend : Int) (hp : pend ≤ 0) (b0 : 0 ≤ acks) (b1 : acks < 1000000) (h : Dif w Z D V R false eng par pend dbt acks to unk eng' ends eu) :
    Calls Try.prog 21 #[.pointer (some ⟨D, 0, none⟩)] w fun e w' => e = .returned (.tuple #[]) ∧ Dif w' Z D V R false false par pend false (acks + 1) par dbt true ends eu ∧ Moved D R w w' := by
  have c0 : w.cell? ⟨D, 0, none⟩ = some (.func (.func 16) #[] #[.pointer (some ⟨V, 0, none⟩)]) := by rw [cell_of_row w D 0 _ _ _ h.bD]; rfl
  have c1 : w.cell? ⟨D, 1, none⟩ = some .nilFunc := by rw [cell_of_row w D 1 _ _ _ h.bD]; rfl
  have c2 : w.cell? ⟨D, 2, none⟩ = some (.bool eng) := by rw [cell_of_row w D 2 _ _ _ h.bD]; rfl
  have c3 : w.cell? ⟨D, 3, none⟩ = some (.string par) := by rw [cell_of_row w D 3 _ _ _ h.bD]; rfl
  have c4 : w.cell? ⟨D, 4, none⟩ = some (.int .i64 pend) := by rw [cell_of_row w D 4 _ _ _ h.bD]; rfl
  have c5 : w.cell? ⟨D, 5, none⟩ = some (.bool dbt) := by rw [cell_of_row w D 5 _ _ _ h.bD]; rfl
  have f2 := frozen_of_row w D 2 _ _ h.bD
  have f5 := frozen_of_row w D 5 _ _ h.bD
  have H : Hid (Dif w Z D V R false eng par pend dbt acks to unk eng' ends eu) := h
  clear h
  have nf := neq_fn
  have nn := neq_nil
  go_enter Try.func21, Try.ntmps21
  go_wp2_with fail
  have hack := ack16 V R to par acks unk eng' dbt true ends eu ((w.setCell ⟨D, 2, none⟩ (.bool false)).setCell ⟨D, 5, none⟩ (.bool false)).drew b0 b1 (keepBlk (keepBlk H.out.bV 2 _ H.out.VD) 5 _ H.out.VD) (keepBlk (keepBlk H.out.bR 2 _ (fun e => H.out.DR e.symm)) 5 _ (fun e => H.out.DR e.symm)) H.out.VR
  go_region_with (go_at_call 16; refine hack.mono ?_; rintro e w' ⟨rfl, hR, hm⟩)
  all_goals
    have hm1 : Moved D R w w' := (((Moved.refl D R w).setD 2 _).setD 5 _).drew.trans (hm D)
    have hD : w'.heap[D]? = some (.cells #[ackF V, .nilFunc, .bool false, .string par, .int .i64 pend, .bool false] 49 (0, 0)) := by
      rw [(hm (D + 1)).block D (by omega) H.out.DR]
      exact setBlk (setBlk H.out.bD 2 _ rfl) 5 _ rfl
    have hZ := (hm1.block Z H.out.ZD H.out.ZR).trans H.out.bZ
    have hV := (hm1.block V H.out.VD H.out.VR).trans H.out.bV
    clear hm hack
    go_wp2
    go_end0
    exact ⟨rfl, ⟨hZ, hD, hV, hR⟩, hm1⟩
end
end Go.Proofs.Qxb6614550a
