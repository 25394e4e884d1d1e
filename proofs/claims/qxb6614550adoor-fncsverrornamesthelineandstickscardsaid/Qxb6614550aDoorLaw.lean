import Derived.Test.Qxb6614550aDoorMain
import Derived.LaidEqlPtr
namespace Go.Proofs.Qxb6614550aDoor
open Go.RowKit

theorem blk_on {w w' : World} {k : Nat} {o : Obj} (hb : Below w.heap.size w w') (h : w.heap[k]? = some o) : w'.heap[k]? = some o :=
  (hb.block k (Array.getElem?_eq_some_iff.1 h).1).trans h
theorem cell_on {w w' : World} {a : Addr} {v : Value} (hb : Below w.heap.size w w') (h : w.cell? a = some v) : w'.cell? a = some v :=
  (hb.cell (cell_lt h)).trans h

theorem info38 : ∃ j, Tryd.prog.info? 38 = some j := Option.isSome_iff_exists.1 (by kernel_rfl)
theorem eql34 (a : Addr) (w : World) : (binOp .eql 34 (.pointer (some a)) (.pointer (some a))).run Tryd.prog w = .ok (.bool true) w := by
  obtain ⟨j, hj⟩ := info38
  exact run_eql_ptr_same w a Tryd.underlying34 hj
theorem neq34 (a : Addr) (w : World) : (binOp .neq 34 (.pointer (some a)) (.pointer (some a))).run Tryd.prog w = .ok (.bool false) w := by
  obtain ⟨j, hj⟩ := info38
  have h : ∀ d : Nat, (Op.equalIn (d + 1) 34 (.pointer (some a)) (.pointer (some a))).run Tryd.prog w = .ok true w := fun d => by
    simp [Op.equalIn, run_underlying Tryd.underlying34, sizeOf, typeInfo, hj, run_sameAddr_same]
  simp only [binOp]
  simp [Op.equal, Op.maxDepth, h 9999]

set_option maxHeartbeats 8000000 in
set_option maxRecDepth 100000 in
theorem csv_main (n1 n2 fl : ByteArray) (sl ln cl il : Int) (w : World) (hg : w.cell? ⟨1, 0, none⟩ = some hand) (h1 : n1.size ≤ 65536) (h2 : n2.size ≤ 65536) (h3 : fl.size ≤ 65536) :
    Calls Tryd.prog 5 #[.string n1, .string n2, .int .i64 sl, .int .i64 ln, .int .i64 cl, .string fl, .int .i64 il] w fun e w' => e = .returned (.bool true) ∧ Below w.heap.size w w' := by
  have hd : decide (n1.size + n2.size + fl.size ≤ 1048576) = true := by rw [decide_eq_true_eq]; omega
  obtain ⟨W1, hW1⟩ : ∃ W1, W1 = w.alloc (.cells #[.string fl, .int .i64 il, .nilIface] 38) := ⟨_, rfl⟩
  have HB : Below w.heap.size w W1 := by rw [hW1]; exact (Below.refl _ _).alloc (Nat.le_refl _) _
  have HI : W1.heap[w.heap.size]? = some (.cells #[.string fl, .int .i64 il, .nilIface] 38 (0, 0)) := by rw [hW1]; exact heap_alloc_new _ _
  have HG : W1.cell? ⟨1, 0, none⟩ = some hand := cell_on HB hg
  have HW : Hid (W1 = w.alloc (.cells #[.string fl, .int .i64 il, .nilIface] 38)) := hW1
  have KI : Hid (W1.heap[w.heap.size]? = some (.cells #[.string fl, .int .i64 il, .nilIface] 38 (0, 0))) := HI
  have KG : Hid (W1.cell? ⟨1, 0, none⟩ = some hand) := HG
  have KB : Hid (Below w.heap.size w W1) := HB
  clear hW1 hg HI HG HB
  have pe := eql34
  have pn := neq34
  go_enter Tryd.func5, Tryd.ntmps5
  go_wp2_with fail
  refine (bytes8 n1 n2 fl sl ln cl il w (by omega) (by omega) (by omega)).mono ?_
  rintro e w0 ⟨rfl, hw⟩
  replace hw := hw.symm
  subst hw
  rw [hd]
  clear hd
  go_wp2_with fail
  rw [← HW.out]
  clear HW
  refine (mk9 sl ln cl w.heap.size W1).mono ?_
  rintro e W2 ⟨X, C, rfl, cX, bC, bel⟩
  replace KI := blk_on bel KI.out
  replace KG := cell_on bel KG.out
  replace KB := KB.out.trans (bel.mono KB.out.size)
  have KX : Hid _ := cX
  have KC : Hid _ := bC
  clear bel cX bC
  go_wp2_with fail
  refine (csv10_hit X C w.heap.size n1 sl ln cl W2 KG KX.out KC.out).mono ?_
  rintro e W3 ⟨Y, P, rfl, cY, bP, hP, bel⟩
  replace KI := blk_on bel KI
  replace KG := cell_on bel KG
  replace KB := KB.trans (bel.mono KB.size)
  clear bel KX KC
  go_wp2_with fail
  refine (isNil11 Y P W3 cY).mono ?_
  rintro e w4 ⟨rfl, hw⟩
  replace hw := hw.symm
  subst hw
  go_wp2_with fail
  refine (ours12 Y P W3 cY).mono ?_
  rintro e w4 ⟨rfl, hw⟩
  replace hw := hw.symm
  subst hw
  have p0 : W3.cell? ⟨P, 0, none⟩ = some (.string n1) := by rw [cell_of_row W3 P 0 _ _ _ bP]; rfl
  have p1 : W3.cell? ⟨P, 1, none⟩ = some (.int .i64 ln) := by rw [cell_of_row W3 P 1 _ _ _ bP]; rfl
  have p2 : W3.cell? ⟨P, 2, none⟩ = some (.iface 34 (.pointer (some ⟨w.heap.size, 0, none⟩))) := by rw [cell_of_row W3 P 2 _ _ _ bP]; rfl
  have i2 : W3.cell? ⟨w.heap.size, 2, none⟩ = some .nilIface := by rw [cell_of_row W3 w.heap.size 2 _ _ _ KI]; rfl
  have HP2 : Hid _ := p2
  have HI2 : Hid _ := i2
  go_wp2_with fail
  refine (inner13 P w.heap.size W3 p2).mono ?_
  rintro e w4 ⟨rfl, hw⟩
  replace hw := hw.symm
  subst hw
  go_wp2_with fail
  refine (csv10_miss Y P w.heap.size n2 W3 KG cY p2 i2).mono ?_
  rintro e W4 ⟨Y2, rfl, cY2, bel⟩
  replace KI := blk_on bel KI
  replace bP := blk_on bel bP
  replace KB := KB.trans (bel.mono KB.size)
  clear bel p0 p1 p2 i2 HP2 HI2 cY
  have p0 : W4.cell? ⟨P, 0, none⟩ = some (.string n1) := by rw [cell_of_row W4 P 0 _ _ _ bP]; rfl
  have p1 : W4.cell? ⟨P, 1, none⟩ = some (.int .i64 ln) := by rw [cell_of_row W4 P 1 _ _ _ bP]; rfl
  have i0 : W4.cell? ⟨w.heap.size, 0, none⟩ = some (.string fl) := by rw [cell_of_row W4 w.heap.size 0 _ _ _ KI]; rfl
  have i1 : W4.cell? ⟨w.heap.size, 1, none⟩ = some (.int .i64 il) := by rw [cell_of_row W4 w.heap.size 1 _ _ _ KI]; rfl
  go_wp2_with fail
  refine (ours12 Y2 P W4 cY2).mono ?_
  rintro e w4 ⟨rfl, hw⟩
  replace hw := hw.symm
  subst hw
  go_wp2_with fail
  go_ret
  exact ⟨rfl, KB⟩
end Go.Proofs.Qxb6614550aDoor
