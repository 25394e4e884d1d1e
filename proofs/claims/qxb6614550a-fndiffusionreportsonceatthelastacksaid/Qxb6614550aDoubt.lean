import Derived.Test.Qxb6614550aAck
namespace Go.Proofs.Qxb6614550a
open Go.RowKit

theorem bytes12 (root : Bool) (par : ByteArray) (pend : Int) (dbt : Bool) (w : World) (hs : par.size ≤ 1048576) : Calls Try.prog 12 #[.bool root, .string par, .int .i64 pend, .bool dbt] w fun e w' => e = .returned (.bool true) ∧ w' = w := by
  go_enter Try.func12, Try.ntmps12
  go_wp2
  go_ret
  exact ⟨rfl, rfl⟩
theorem bytes12_no (root : Bool) (par : ByteArray) (pend : Int) (dbt : Bool) (w : World) (hm : par.size ≤ 9223372036854775807) (hs : 1048576 < par.size) : Calls Try.prog 12 #[.bool root, .string par, .int .i64 pend, .bool dbt] w fun e w' => e = .returned (.bool false) ∧ w' = w := by
  go_enter Try.func12, Try.ntmps12
  go_wp2
  go_ret
  exact ⟨rfl, rfl⟩

theorem Dif.moved {w w' : World} {Z D V R D' R' : Nat} {es eng : Bool} {par : ByteArray} {pend : Int} {dbt : Bool} {acks : Int} {to : ByteArray} {unk eng' : Bool} {ends : Int} {eu : Bool} (h : Dif w Z D V R es eng par pend dbt acks to unk eng' ends eu) (hm : Moved D' R' w w')
    (hd : Z ≠ D' ∧ D ≠ D' ∧ V ≠ D' ∧ R ≠ D') (hr : Z ≠ R' ∧ D ≠ R' ∧ V ≠ R' ∧ R ≠ R') : Dif w' Z D V R es eng par pend dbt acks to unk eng' ends eu :=
  h.same fun k hk => hm.block k (by omega) (by omega)
theorem fields10b {w : World} (Z D V R : Nat) (es eng : Bool) (par : ByteArray) (pend : Int) (dbt : Bool) (acks : Int) (to : ByteArray) (unk eng' : Bool) (ends : Int) (eu : Bool) (h : Dif w Z D V R es eng par pend dbt acks to unk eng' ends eu) :
    Calls Try.prog 10 #[.pointer (some ⟨Z, 0, none⟩)] w fun e w' => e = .returned (.tuple #[.bool eng, .string par, .int .i64 pend, .bool dbt, .bool es]) ∧ Below w.heap.size w w' :=
  (fields10 Z D V R eng par dbt acks to unk eng' ends eu w es pend h).mono fun _ _ hh => ⟨hh.1, by obtain ⟨q, rfl⟩ := hh.2; exact below_drewN (Below.refl _ _) q⟩
theorem reports11b {w : World} (Z D V R : Nat) (es eng : Bool) (par : ByteArray) (pend : Int) (dbt : Bool) (acks : Int) (to : ByteArray) (unk eng' : Bool) (ends : Int) (eu : Bool) (h : Dif w Z D V R es eng par pend dbt acks to unk eng' ends eu) :
    Calls Try.prog 11 #[.pointer (some ⟨Z, 0, none⟩)] w fun e w' => e = .returned (.tuple #[.int .i64 acks, .string to, .bool unk, .bool eng', .int .i64 ends, .bool eu]) ∧ Below w.heap.size w w' :=
  (reports11 Z D V R eng par dbt acks to unk eng' ends eu w es pend h).mono fun _ _ hh => ⟨hh.1, by obtain ⟨q, rfl⟩ := hh.2; exact below_drewN (Below.refl _ _) q⟩

set_option maxHeartbeats 4000000 in
set_option maxRecDepth 100000 in
theorem doubt_more (par : ByteArray) (dbt : Bool) (root : Bool) (pend : Int) (hp : 1 < pend) (hq : pend ≤ 9223372036854775807) (w : World) (hs : par.size ≤ 65536) :
    Calls Try.prog 4 #[.bool root, .string par, .int .i64 pend, .bool dbt] w fun e w' => e = .returned (.bool true) ∧ Below w.heap.size w w' := by
  go_enter Try.func4, Try.ntmps4
  go_wp2_with fail
  refine (bytes12 root par pend dbt w (by omega)).mono ?_
  rintro e w0 ⟨rfl, hw⟩
  replace hw := hw.symm
  subst hw
  go_wp2_with fail
  refine (new7 root true par pend dbt w).mono ?_
  rintro e w1 ⟨Zx, Dx, Vx, Rx, rfl, zx, dx, vx, rx, X, hb1⟩
  have zx1 := lt_of_blk X.bZ
  have dx1 := lt_of_blk X.bD
  have vx1 := lt_of_blk X.bV
  have rx1 := lt_of_blk X.bR
  go_wp2_with fail
  refine (new7 root true par pend dbt w1).mono ?_
  rintro e w2 ⟨Zy, Dy, Vy, Ry, rfl, zy, dy, vy, ry, Y, hb2⟩
  replace X := X.below hb2
  have hb := hb1.trans (hb2.mono hb1.size)
  have hle1 := hb1.size
  clear hb1 hb2
  go_wp2_with fail
  refine (dbt8_more Zx Dx Vx Rx true par dbt 0 ByteArray.empty false false 0 false w2 root pend hp hq X).mono ?_
  rintro e w3 ⟨rfl, X3, m3⟩
  replace Y := Y.moved m3 (by omega) (by omega)
  replace hb := hb.trans (m3.below dx rx)
  clear X m3
  go_wp2_with fail
  refine (ack9_more Zy Dy Vy Ry true par dbt 0 ByteArray.empty false false 0 false w3 root pend hp hq Y).mono ?_
  rintro e w4 ⟨rfl, Y4, m4⟩
  replace X3 := X3.moved m4 (by omega) (by omega)
  replace hb := hb.trans (m4.below (by omega) (by omega))
  clear Y m4
  go_wp2_with fail
  refine (fields10b Zx Dx Vx Rx root true par (pend - 1) true 0 ByteArray.empty false false 0 false X3).mono ?_
  rintro e w5 ⟨rfl, bel⟩
  replace X3 := X3.below bel
  replace Y4 := Y4.below bel
  replace hb := hb.trans (bel.mono hb.size)
  clear bel
  go_wp2_with fail
  refine (fields10b Zy Dy Vy Ry root true par (pend - 1) dbt 0 ByteArray.empty false false 0 false Y4).mono ?_
  rintro e w6 ⟨rfl, bel⟩
  replace X3 := X3.below bel
  replace Y4 := Y4.below bel
  replace hb := hb.trans (bel.mono hb.size)
  clear bel
  go_wp2_with fail
  refine (reports11b Zx Dx Vx Rx root true par (pend - 1) true 0 ByteArray.empty false false 0 false X3).mono ?_
  rintro e w7 ⟨rfl, bel⟩
  replace Y4 := Y4.below bel
  replace hb := hb.trans (bel.mono hb.size)
  clear bel X3
  go_wp2_with fail
  refine (reports11b Zy Dy Vy Ry root true par (pend - 1) dbt 0 ByteArray.empty false false 0 false Y4).mono ?_
  rintro e w8 ⟨rfl, bel⟩
  replace hb := hb.trans (bel.mono hb.size)
  clear bel Y4
  go_wp2_with fail
  go_ret
  exact ⟨rfl, hb⟩

set_option maxHeartbeats 4000000 in
set_option maxRecDepth 100000 in
theorem doubt_root (par : ByteArray) (dbt : Bool)  (w : World) (hs : par.size ≤ 65536) :
    Calls Try.prog 4 #[.bool true, .string par, .int .i64 1, .bool dbt] w fun e w' => e = .returned (.bool true) ∧ Below w.heap.size w w' := by
  go_enter Try.func4, Try.ntmps4
  go_wp2_with fail
  refine (bytes12 true par 1 dbt w (by omega)).mono ?_
  rintro e w0 ⟨rfl, hw⟩
  replace hw := hw.symm
  subst hw
  go_wp2_with fail
  refine (new7 true true par 1 dbt w).mono ?_
  rintro e w1 ⟨Zx, Dx, Vx, Rx, rfl, zx, dx, vx, rx, X, hb1⟩
  have zx1 := lt_of_blk X.bZ
  have dx1 := lt_of_blk X.bD
  have vx1 := lt_of_blk X.bV
  have rx1 := lt_of_blk X.bR
  go_wp2_with fail
  refine (new7 true true par 1 dbt w1).mono ?_
  rintro e w2 ⟨Zy, Dy, Vy, Ry, rfl, zy, dy, vy, ry, Y, hb2⟩
  replace X := X.below hb2
  have hb := hb1.trans (hb2.mono hb1.size)
  have hle1 := hb1.size
  clear hb1 hb2
  go_wp2_with fail
  refine (dbt8_root Zx Dx Vx Rx true par dbt 0 ByteArray.empty false false 0 false w2 (by omega) (by omega) X).mono ?_
  rintro e w3 ⟨rfl, X3, m3⟩
  replace Y := Y.moved m3 (by omega) (by omega)
  replace hb := hb.trans (m3.below dx rx)
  clear X m3
  go_wp2_with fail
  refine (ack9_root Zy Dy Vy Ry true par dbt 0 ByteArray.empty false false 0 false w3 (by omega) (by omega) Y).mono ?_
  rintro e w4 ⟨rfl, Y4, m4⟩
  replace X3 := X3.moved m4 (by omega) (by omega)
  replace hb := hb.trans (m4.below (by omega) (by omega))
  clear Y m4
  go_wp2_with fail
  refine (fields10b Zx Dx Vx Rx false false par 0 false 0 ByteArray.empty false false (0 + 1) true X3).mono ?_
  rintro e w5 ⟨rfl, bel⟩
  replace X3 := X3.below bel
  replace Y4 := Y4.below bel
  replace hb := hb.trans (bel.mono hb.size)
  clear bel
  go_wp2_with fail
  refine (fields10b Zy Dy Vy Ry false false par 0 false 0 ByteArray.empty false false (0 + 1) dbt Y4).mono ?_
  rintro e w6 ⟨rfl, bel⟩
  replace X3 := X3.below bel
  replace Y4 := Y4.below bel
  replace hb := hb.trans (bel.mono hb.size)
  clear bel
  go_wp2_with fail
  refine (reports11b Zx Dx Vx Rx false false par 0 false 0 ByteArray.empty false false (0 + 1) true X3).mono ?_
  rintro e w7 ⟨rfl, bel⟩
  replace Y4 := Y4.below bel
  replace hb := hb.trans (bel.mono hb.size)
  clear bel X3
  go_wp2_with fail
  refine (reports11b Zy Dy Vy Ry false false par 0 false 0 ByteArray.empty false false (0 + 1) dbt Y4).mono ?_
  rintro e w8 ⟨rfl, bel⟩
  replace hb := hb.trans (bel.mono hb.size)
  clear bel Y4
  go_wp2_with fail
  go_ret
  exact ⟨rfl, hb⟩

set_option maxHeartbeats 4000000 in
set_option maxRecDepth 100000 in
theorem doubt_last (par : ByteArray) (dbt : Bool)  (w : World) (hs : par.size ≤ 65536) :
    Calls Try.prog 4 #[.bool false, .string par, .int .i64 1, .bool dbt] w fun e w' => e = .returned (.bool true) ∧ Below w.heap.size w w' := by
  go_enter Try.func4, Try.ntmps4
  go_wp2_with fail
  refine (bytes12 false par 1 dbt w (by omega)).mono ?_
  rintro e w0 ⟨rfl, hw⟩
  replace hw := hw.symm
  subst hw
  go_wp2_with fail
  refine (new7 false true par 1 dbt w).mono ?_
  rintro e w1 ⟨Zx, Dx, Vx, Rx, rfl, zx, dx, vx, rx, X, hb1⟩
  have zx1 := lt_of_blk X.bZ
  have dx1 := lt_of_blk X.bD
  have vx1 := lt_of_blk X.bV
  have rx1 := lt_of_blk X.bR
  go_wp2_with fail
  refine (new7 false true par 1 dbt w1).mono ?_
  rintro e w2 ⟨Zy, Dy, Vy, Ry, rfl, zy, dy, vy, ry, Y, hb2⟩
  replace X := X.below hb2
  have hb := hb1.trans (hb2.mono hb1.size)
  have hle1 := hb1.size
  clear hb1 hb2
  go_wp2_with fail
  refine (dbt8_last Zx Dx Vx Rx true par dbt 0 ByteArray.empty false false 0 false w2 (by omega) (by omega) X).mono ?_
  rintro e w3 ⟨rfl, X3, m3⟩
  replace Y := Y.moved m3 (by omega) (by omega)
  replace hb := hb.trans (m3.below dx rx)
  clear X m3
  go_wp2_with fail
  refine (ack9_last Zy Dy Vy Ry true par dbt 0 ByteArray.empty false false 0 false w3 (by omega) (by omega) Y).mono ?_
  rintro e w4 ⟨rfl, Y4, m4⟩
  replace X3 := X3.moved m4 (by omega) (by omega)
  replace hb := hb.trans (m4.below (by omega) (by omega))
  clear Y m4
  go_wp2_with fail
  refine (fields10b Zx Dx Vx Rx false false par 0 false (0 + 1) par true true 0 false X3).mono ?_
  rintro e w5 ⟨rfl, bel⟩
  replace X3 := X3.below bel
  replace Y4 := Y4.below bel
  replace hb := hb.trans (bel.mono hb.size)
  clear bel
  go_wp2_with fail
  refine (fields10b Zy Dy Vy Ry false false par 0 false (0 + 1) par dbt true 0 false Y4).mono ?_
  rintro e w6 ⟨rfl, bel⟩
  replace X3 := X3.below bel
  replace Y4 := Y4.below bel
  replace hb := hb.trans (bel.mono hb.size)
  clear bel
  go_wp2_with fail
  refine (reports11b Zx Dx Vx Rx false false par 0 false (0 + 1) par true true 0 false X3).mono ?_
  rintro e w7 ⟨rfl, bel⟩
  replace Y4 := Y4.below bel
  replace hb := hb.trans (bel.mono hb.size)
  clear bel X3
  go_wp2_with fail
  refine (reports11b Zy Dy Vy Ry false false par 0 false (0 + 1) par dbt true 0 false Y4).mono ?_
  rintro e w8 ⟨rfl, bel⟩
  replace hb := hb.trans (bel.mono hb.size)
  clear bel Y4
  go_wp2_with fail
  go_ret
  exact ⟨rfl, hb⟩

end Go.Proofs.Qxb6614550a
