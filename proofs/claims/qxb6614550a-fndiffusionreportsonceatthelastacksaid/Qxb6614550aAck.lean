import Derived.Test.Qxb6614550aSettle
namespace Go.Proofs.Qxb6614550a
open Go.RowKit

section
variable {w : World} {Z D V R : Nat} {es eng : Bool} {par : ByteArray} {pend : Int} {dbt : Bool} {acks : Int} {to : ByteArray} {unk eng' : Bool} {ends : Int} {eu : Bool}
theorem Dif.setPend (h : Dif w Z D V R es eng par pend dbt acks to unk eng' ends eu) (p : Int) : Dif (w.setCell ⟨D, 4, none⟩ (.int .i64 p)) Z D V R es eng par p dbt acks to unk eng' ends eu :=
  ⟨keepBlk h.bZ 4 _ h.ZD, setBlk h.bD 4 _ rfl, keepBlk h.bV 4 _ h.VD, keepBlk h.bR 4 _ (fun e => h.DR e.symm)⟩
theorem Dif.setDoubt (h : Dif w Z D V R es eng par pend dbt acks to unk eng' ends eu) : Dif (w.setCell ⟨D, 5, none⟩ (.bool true)) Z D V R es eng par pend true acks to unk eng' ends eu :=
  ⟨keepBlk h.bZ 5 _ h.ZD, setBlk h.bD 5 _ rfl, keepBlk h.bV 5 _ h.VD, keepBlk h.bR 5 _ (fun e => h.DR e.symm)⟩
end

section
variable (Z D V R : Nat) (eng : Bool) (par : ByteArray) (dbt : Bool) (acks : Int) (to : ByteArray) (unk eng' : Bool) (ends : Int) (eu : Bool) (w : World)

set_option maxHeartbeats 800000 in
theorem ack19_more (es : Bool) (pend : Int) (hp : 1 < pend) (hq : pend ≤ 9223372036854775807) (h : Dif w Z D V R es eng par pend dbt acks to unk eng' ends eu) :
    Calls Try.prog 19 #[.pointer (some ⟨D, 0, none⟩)] w fun e w' => e = .returned (.tuple #[]) ∧ Dif w' Z D V R es eng par (pend - 1) dbt acks to unk eng' ends eu ∧ Moved D R w w' := by
  have c4 : w.cell? ⟨D, 4, none⟩ = some (.int .i64 pend) := by rw [cell_of_row w D 4 _ _ _ h.bD]; rfl
  have f4 := frozen_of_row w D 4 _ _ h.bD
  have H : Hid (Dif w Z D V R es eng par pend dbt acks to unk eng' ends eu) := h
  clear h
  go_enter Try.func19, Try.ntmps19
  go_wp2_with fail
  refine (settle_more Z D V R eng par dbt acks to unk eng' ends eu _ es (pend - 1) (by omega) (H.out.setPend _)).mono ?_
  rintro e w' ⟨rfl, hw⟩
  replace hw := hw.symm
  subst hw
  have hd := H.out.setPend (pend - 1)
  have hm : Moved D R w (w.setCell ⟨D, 4, none⟩ (.int .i64 (pend - 1))) := (Moved.refl D R w).setD 4 _
  go_wp2
  go_end0
  exact ⟨rfl, hd, hm⟩

set_option maxHeartbeats 800000 in
theorem ack9_more (es : Bool) (pend : Int) (hp : 1 < pend) (hq : pend ≤ 9223372036854775807) (h : Dif w Z D V R es eng par pend dbt acks to unk eng' ends eu) :
    Calls Try.prog 9 #[.pointer (some ⟨Z, 0, none⟩)] w fun e w' => e = .returned (.tuple #[]) ∧ Dif w' Z D V R es eng par (pend - 1) dbt acks to unk eng' ends eu ∧ Moved D R w w' := by
  have c0 : w.cell? ⟨Z, 0, none⟩ = some (.pointer (some ⟨D, 0, none⟩)) := by rw [cell_of_row w Z 0 _ _ _ h.bZ]; rfl
  have H : Hid (Dif w Z D V R es eng par pend dbt acks to unk eng' ends eu) := h
  clear h
  go_enter Try.func9, Try.ntmps9
  go_wp2_with fail
  refine (ack19_more Z D V R eng par dbt acks to unk eng' ends eu _ es pend hp hq H.out).mono ?_
  rintro e w' ⟨rfl, hd, hm⟩
  go_wp2
  go_end0
  exact ⟨rfl, hd, hm⟩

set_option maxHeartbeats 800000 in
theorem dbt18_more (es : Bool) (pend : Int) (hp : 1 < pend) (hq : pend ≤ 9223372036854775807) (h : Dif w Z D V R es eng par pend dbt acks to unk eng' ends eu) :
    Calls Try.prog 18 #[.pointer (some ⟨D, 0, none⟩)] w fun e w' => e = .returned (.tuple #[]) ∧ Dif w' Z D V R es eng par (pend - 1) true acks to unk eng' ends eu ∧ Moved D R w w' := by
  have c5 : w.cell? ⟨D, 5, none⟩ = some (.bool dbt) := by rw [cell_of_row w D 5 _ _ _ h.bD]; rfl
  have f5 := frozen_of_row w D 5 _ _ h.bD
  have H : Hid (Dif w Z D V R es eng par pend dbt acks to unk eng' ends eu) := h
  clear h
  go_enter Try.func18, Try.ntmps18
  go_wp2_with fail
  refine (ack19_more Z D V R eng par true acks to unk eng' ends eu _ es pend hp hq H.out.setDoubt).mono ?_
  rintro e w' ⟨rfl, hd, hm0⟩
  have hm := ((Moved.refl D R w).setD 5 (.bool true)).trans hm0
  clear hm0
  go_wp2
  go_end0
  exact ⟨rfl, hd, hm⟩

set_option maxHeartbeats 800000 in
theorem dbt8_more (es : Bool) (pend : Int) (hp : 1 < pend) (hq : pend ≤ 9223372036854775807) (h : Dif w Z D V R es eng par pend dbt acks to unk eng' ends eu) :
    Calls Try.prog 8 #[.pointer (some ⟨Z, 0, none⟩)] w fun e w' => e = .returned (.tuple #[]) ∧ Dif w' Z D V R es eng par (pend - 1) true acks to unk eng' ends eu ∧ Moved D R w w' := by
  have c0 : w.cell? ⟨Z, 0, none⟩ = some (.pointer (some ⟨D, 0, none⟩)) := by rw [cell_of_row w Z 0 _ _ _ h.bZ]; rfl
  have H : Hid (Dif w Z D V R es eng par pend dbt acks to unk eng' ends eu) := h
  clear h
  go_enter Try.func8, Try.ntmps8
  go_wp2_with fail
  refine (dbt18_more Z D V R eng par dbt acks to unk eng' ends eu _ es pend hp hq H.out).mono ?_
  rintro e w' ⟨rfl, hd, hm⟩
  go_wp2
  go_end0
  exact ⟨rfl, hd, hm⟩

set_option maxHeartbeats 800000 in
theorem ack19_root (b0 : 0 ≤ ends) (b1 : ends < 1000000) (h : Dif w Z D V R true eng par 1 dbt acks to unk eng' ends eu) :
    Calls Try.prog 19 #[.pointer (some ⟨D, 0, none⟩)] w fun e w' => e = .returned (.tuple #[]) ∧ Dif w' Z D V R false false par 0 false acks to unk eng' (ends + 1) dbt ∧ Moved D R w w' := by
  have c4 : w.cell? ⟨D, 4, none⟩ = some (.int .i64 1) := by rw [cell_of_row w D 4 _ _ _ h.bD]; rfl
  have f4 := frozen_of_row w D 4 _ _ h.bD
  have H : Hid (Dif w Z D V R true eng par 1 dbt acks to unk eng' ends eu) := h
  clear h
  go_enter Try.func19, Try.ntmps19
  go_wp2_with fail
  refine (settle_root Z D V R eng par dbt acks to unk eng' ends eu _ 0 (by omega) b0 b1 (H.out.setPend _)).mono ?_
  rintro e w' ⟨rfl, hd, hm0⟩
  have hm := ((Moved.refl D R w).setD 4 (.int .i64 0)).trans hm0
  clear hm0
  go_wp2
  go_end0
  exact ⟨rfl, hd, hm⟩

set_option maxHeartbeats 800000 in
theorem ack9_root (b0 : 0 ≤ ends) (b1 : ends < 1000000) (h : Dif w Z D V R true eng par 1 dbt acks to unk eng' ends eu) :
    Calls Try.prog 9 #[.pointer (some ⟨Z, 0, none⟩)] w fun e w' => e = .returned (.tuple #[]) ∧ Dif w' Z D V R false false par 0 false acks to unk eng' (ends + 1) dbt ∧ Moved D R w w' := by
  have c0 : w.cell? ⟨Z, 0, none⟩ = some (.pointer (some ⟨D, 0, none⟩)) := by rw [cell_of_row w Z 0 _ _ _ h.bZ]; rfl
  have H : Hid (Dif w Z D V R true eng par 1 dbt acks to unk eng' ends eu) := h
  clear h
  go_enter Try.func9, Try.ntmps9
  go_wp2_with fail
  refine (ack19_root Z D V R eng par dbt acks to unk eng' ends eu _ b0 b1 H.out).mono ?_
  rintro e w' ⟨rfl, hd, hm⟩
  go_wp2
  go_end0
  exact ⟨rfl, hd, hm⟩

set_option maxHeartbeats 800000 in
theorem dbt18_root (b0 : 0 ≤ ends) (b1 : ends < 1000000) (h : Dif w Z D V R true eng par 1 dbt acks to unk eng' ends eu) :
    Calls Try.prog 18 #[.pointer (some ⟨D, 0, none⟩)] w fun e w' => e = .returned (.tuple #[]) ∧ Dif w' Z D V R false false par 0 false acks to unk eng' (ends + 1) true ∧ Moved D R w w' := by
  have c5 : w.cell? ⟨D, 5, none⟩ = some (.bool dbt) := by rw [cell_of_row w D 5 _ _ _ h.bD]; rfl
  have f5 := frozen_of_row w D 5 _ _ h.bD
  have H : Hid (Dif w Z D V R true eng par 1 dbt acks to unk eng' ends eu) := h
  clear h
  go_enter Try.func18, Try.ntmps18
  go_wp2_with fail
  refine (ack19_root Z D V R eng par true acks to unk eng' ends eu _ b0 b1 H.out.setDoubt).mono ?_
  rintro e w' ⟨rfl, hd, hm0⟩
  have hm := ((Moved.refl D R w).setD 5 (.bool true)).trans hm0
  clear hm0
  go_wp2
  go_end0
  exact ⟨rfl, hd, hm⟩

set_option maxHeartbeats 800000 in
theorem dbt8_root (b0 : 0 ≤ ends) (b1 : ends < 1000000) (h : Dif w Z D V R true eng par 1 dbt acks to unk eng' ends eu) :
    Calls Try.prog 8 #[.pointer (some ⟨Z, 0, none⟩)] w fun e w' => e = .returned (.tuple #[]) ∧ Dif w' Z D V R false false par 0 false acks to unk eng' (ends + 1) true ∧ Moved D R w w' := by
  have c0 : w.cell? ⟨Z, 0, none⟩ = some (.pointer (some ⟨D, 0, none⟩)) := by rw [cell_of_row w Z 0 _ _ _ h.bZ]; rfl
  have H : Hid (Dif w Z D V R true eng par 1 dbt acks to unk eng' ends eu) := h
  clear h
  go_enter Try.func8, Try.ntmps8
  go_wp2_with fail
  refine (dbt18_root Z D V R eng par dbt acks to unk eng' ends eu _ b0 b1 H.out).mono ?_
  rintro e w' ⟨rfl, hd, hm⟩
  go_wp2
  go_end0
  exact ⟨rfl, hd, hm⟩

set_option maxHeartbeats 800000 in
theorem ack19_last (b0 : 0 ≤ acks) (b1 : acks < 1000000) (h : Dif w Z D V R false eng par 1 dbt acks to unk eng' ends eu) :
    Calls Try.prog 19 #[.pointer (some ⟨D, 0, none⟩)] w fun e w' => e = .returned (.tuple #[]) ∧ Dif w' Z D V R false false par 0 false (acks + 1) par dbt true ends eu ∧ Moved D R w w' := by
  have c4 : w.cell? ⟨D, 4, none⟩ = some (.int .i64 1) := by rw [cell_of_row w D 4 _ _ _ h.bD]; rfl
  have f4 := frozen_of_row w D 4 _ _ h.bD
  have H : Hid (Dif w Z D V R false eng par 1 dbt acks to unk eng' ends eu) := h
  clear h
  go_enter Try.func19, Try.ntmps19
  go_wp2_with fail
  refine (settle_ack Z D V R eng par dbt acks to unk eng' ends eu _ 0 (by omega) b0 b1 (H.out.setPend _)).mono ?_
  rintro e w' ⟨rfl, hd, hm0⟩
  have hm := ((Moved.refl D R w).setD 4 (.int .i64 0)).trans hm0
  clear hm0
  go_wp2
  go_end0
  exact ⟨rfl, hd, hm⟩

set_option maxHeartbeats 800000 in
theorem ack9_last (b0 : 0 ≤ acks) (b1 : acks < 1000000) (h : Dif w Z D V R false eng par 1 dbt acks to unk eng' ends eu) :
    Calls Try.prog 9 #[.pointer (some ⟨Z, 0, none⟩)] w fun e w' => e = .returned (.tuple #[]) ∧ Dif w' Z D V R false false par 0 false (acks + 1) par dbt true ends eu ∧ Moved D R w w' := by
  have c0 : w.cell? ⟨Z, 0, none⟩ = some (.pointer (some ⟨D, 0, none⟩)) := by rw [cell_of_row w Z 0 _ _ _ h.bZ]; rfl
  have H : Hid (Dif w Z D V R false eng par 1 dbt acks to unk eng' ends eu) := h
  clear h
  go_enter Try.func9, Try.ntmps9
  go_wp2_with fail
  refine (ack19_last Z D V R eng par dbt acks to unk eng' ends eu _ b0 b1 H.out).mono ?_
  rintro e w' ⟨rfl, hd, hm⟩
  go_wp2
  go_end0
  exact ⟨rfl, hd, hm⟩

set_option maxHeartbeats 800000 in
theorem dbt18_last (b0 : 0 ≤ acks) (b1 : acks < 1000000) (h : Dif w Z D V R false eng par 1 dbt acks to unk eng' ends eu) :
    Calls Try.prog 18 #[.pointer (some ⟨D, 0, none⟩)] w fun e w' => e = .returned (.tuple #[]) ∧ Dif w' Z D V R false false par 0 false (acks + 1) par true true ends eu ∧ Moved D R w w' := by
  have c5 : w.cell? ⟨D, 5, none⟩ = some (.bool dbt) := by rw [cell_of_row w D 5 _ _ _ h.bD]; rfl
  have f5 := frozen_of_row w D 5 _ _ h.bD
  have H : Hid (Dif w Z D V R false eng par 1 dbt acks to unk eng' ends eu) := h
  clear h
  go_enter Try.func18, Try.ntmps18
  go_wp2_with fail
  refine (ack19_last Z D V R eng par true acks to unk eng' ends eu _ b0 b1 H.out.setDoubt).mono ?_
  rintro e w' ⟨rfl, hd, hm0⟩
  have hm := ((Moved.refl D R w).setD 5 (.bool true)).trans hm0
  clear hm0
  go_wp2
  go_end0
  exact ⟨rfl, hd, hm⟩

set_option maxHeartbeats 800000 in
theorem dbt8_last (b0 : 0 ≤ acks) (b1 : acks < 1000000) (h : Dif w Z D V R false eng par 1 dbt acks to unk eng' ends eu) :
    Calls Try.prog 8 #[.pointer (some ⟨Z, 0, none⟩)] w fun e w' => e = .returned (.tuple #[]) ∧ Dif w' Z D V R false false par 0 false (acks + 1) par true true ends eu ∧ Moved D R w w' := by
  have c0 : w.cell? ⟨Z, 0, none⟩ = some (.pointer (some ⟨D, 0, none⟩)) := by rw [cell_of_row w Z 0 _ _ _ h.bZ]; rfl
  have H : Hid (Dif w Z D V R false eng par 1 dbt acks to unk eng' ends eu) := h
  clear h
  go_enter Try.func8, Try.ntmps8
  go_wp2_with fail
  refine (dbt18_last Z D V R eng par dbt acks to unk eng' ends eu _ b0 b1 H.out).mono ?_
  rintro e w' ⟨rfl, hd, hm⟩
  go_wp2
  go_end0
  exact ⟨rfl, hd, hm⟩

set_option maxHeartbeats 1600000 in
theorem fields10 (es : Bool) (pend : Int) (h : Dif w Z D V R es eng par pend dbt acks to unk eng' ends eu) :
    Calls Try.prog 10 #[.pointer (some ⟨Z, 0, none⟩)] w fun e w' => e = .returned (.tuple #[.bool eng, .string par, .int .i64 pend, .bool dbt, .bool es]) ∧ ∃ q, w' = w.drewN q := by
  have z0 : w.cell? ⟨Z, 0, none⟩ = some (.pointer (some ⟨D, 0, none⟩)) := by rw [cell_of_row w Z 0 _ _ _ h.bZ]; rfl
  have c2 : w.cell? ⟨D, 2, none⟩ = some (.bool eng) := by rw [cell_of_row w D 2 _ _ _ h.bD]; rfl
  have c3 : w.cell? ⟨D, 3, none⟩ = some (.string par) := by rw [cell_of_row w D 3 _ _ _ h.bD]; rfl
  have c4 : w.cell? ⟨D, 4, none⟩ = some (.int .i64 pend) := by rw [cell_of_row w D 4 _ _ _ h.bD]; rfl
  have c5 : w.cell? ⟨D, 5, none⟩ = some (.bool dbt) := by rw [cell_of_row w D 5 _ _ _ h.bD]; rfl
  have c1 : w.cell? ⟨D, 1, none⟩ = some (endV V es) := by rw [cell_of_row w D 1 _ _ _ h.bD]; rfl
  have nf := neq_fn
  have nn := neq_nil
  clear h
  cases es
  · have c1' : w.cell? ⟨D, 1, none⟩ = some .nilFunc := c1
    clear c1
    go_enter Try.func10, Try.ntmps10
    go_wp2
    go_quiet (fail)
    go_wp2
    exact bodyPost_ret (v := .tuple #[.bool eng, .string par, .int .i64 pend, .bool dbt, .bool false]) (by simp [results, Try.results10, go_sem]) rfl ⟨rfl, _, rfl⟩
  · have c1' : w.cell? ⟨D, 1, none⟩ = some (.func (.func 17) #[] #[.pointer (some ⟨V, 0, none⟩)]) := c1
    clear c1
    go_enter Try.func10, Try.ntmps10
    go_wp2
    go_quiet (fail)
    go_wp2
    exact bodyPost_ret (v := .tuple #[.bool eng, .string par, .int .i64 pend, .bool dbt, .bool true]) (by simp [results, Try.results10, go_sem]) rfl ⟨rfl, _, rfl⟩

set_option maxHeartbeats 1600000 in
theorem reports11 (es : Bool) (pend : Int) (h : Dif w Z D V R es eng par pend dbt acks to unk eng' ends eu) :
    Calls Try.prog 11 #[.pointer (some ⟨Z, 0, none⟩)] w fun e w' => e = .returned (.tuple #[.int .i64 acks, .string to, .bool unk, .bool eng', .int .i64 ends, .bool eu]) ∧ ∃ q, w' = w.drewN q := by
  have z1 : w.cell? ⟨Z, 1, none⟩ = some (.pointer (some ⟨R, 0, none⟩)) := by rw [cell_of_row w Z 1 _ _ _ h.bZ]; rfl
  have c0 : w.cell? ⟨R, 0, none⟩ = some (.int .i64 acks) := by rw [cell_of_row w R 0 _ _ _ h.bR]; rfl
  have c1 : w.cell? ⟨R, 1, none⟩ = some (.string to) := by rw [cell_of_row w R 1 _ _ _ h.bR]; rfl
  have c2 : w.cell? ⟨R, 2, none⟩ = some (.bool unk) := by rw [cell_of_row w R 2 _ _ _ h.bR]; rfl
  have c3 : w.cell? ⟨R, 3, none⟩ = some (.bool eng') := by rw [cell_of_row w R 3 _ _ _ h.bR]; rfl
  have c4 : w.cell? ⟨R, 4, none⟩ = some (.int .i64 ends) := by rw [cell_of_row w R 4 _ _ _ h.bR]; rfl
  have c5 : w.cell? ⟨R, 5, none⟩ = some (.bool eu) := by rw [cell_of_row w R 5 _ _ _ h.bR]; rfl
  clear h
  go_enter Try.func11, Try.ntmps11
  go_wp2
  go_quiet (fail)
  go_wp2
  exact bodyPost_ret (v := .tuple #[.int .i64 acks, .string to, .bool unk, .bool eng', .int .i64 ends, .bool eu]) (by simp [results, Try.results11, go_sem]) rfl ⟨rfl, _, rfl⟩
end
end Go.Proofs.Qxb6614550a
