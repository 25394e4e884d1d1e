import Derived.Test.Qxb6614197aPlain
namespace Go.Proofs.Qxb6614197a
open Go.RowKit

set_option maxHeartbeats 8000000 in
set_option maxRecDepth 100000 in
theorem com_walk (a0 a1 a2 a3 : Option Addr) (n0 c0 n1 c1 n2 c2 n3 c3 : Nat) (dead : Bool) (x y : Int) (nst nin ntk nop : Bool) (st inl tk op : List Int) (w : World)
    (S : SlIs .i32 w (.slice a0 n0 c0) nst st) (I : SlIs .i64 w (.slice a1 n1 c1) nin inl) (T : SlIs .i64 w (.slice a2 n2 c2) ntk tk) (O : SlIs .i64 w (.slice a3 n3 c3) nop op)
    (bs : st.length ≤ 1048576) (bi : inl.length ≤ 1048576) (bt : tk.length ≤ 1048576) (bo : op.length ≤ 1048576)
    (l0 : n0 ≤ 262144) (l1 : n1 ≤ 131072) (l2 : n2 ≤ 131072) (l3 : n3 ≤ 131072) (hsum : 4 * n0 + 8 * n1 + 8 * n2 + 8 * n3 ≤ 1048576) :
    Calls Try.prog 3 #[.slice a0 n0 c0, .slice a1 n1 c1, .slice a2 n2 c2, .slice a3 n3 c3, .bool dead, .int .i64 x, .int .i64 y] w fun e w' => e = .returned (.bool true) ∧ Below w.heap.size w w' := by
  have hd : decide (n0 + n1 + n2 + n3 ≤ 1048576) = true := by rw [decide_eq_true_eq]; omega
  have bx := Nat.le_trans (keep1_le x inl) bi
  have byy := Nat.le_trans (keep1_le y inl) bi
  have bxy := Nat.le_trans (keep2_le x y inl) bi
  have bxx := Nat.le_trans (keep2_le x x inl) bi
  have byy2 := Nat.le_trans (keep2_le y y inl) bi
  have HB : Below w.heap.size w w := Below.refl _ _
  go_enter Try.func3, Try.ntmps3
  go_wp2_with fail
  refine (bytes5 a0 a1 a2 a3 n0 c0 n1 c1 n2 c2 n3 c3 dead x y w (by omega) (by omega) (by omega) (by omega)).mono ?_
  rintro e w' ⟨rfl, rfl⟩
  rw [hd]
  clear hd
  go_wp2_with fail
  refine (clone6 _ nst st _ S bs).mono ?_
  rintro e w' ⟨vs, rfl, S1, bel⟩
  replace S := S.below bel
  replace I := I.below bel
  replace T := T.below bel
  replace O := O.below bel
  replace HB := HB.trans (bel.mono HB.size)
  clear bel
  clear S
  go_wp2_with fail
  refine (clone7 _ nin inl _ I bi).mono ?_
  rintro e w' ⟨vi, rfl, I1, bel⟩
  replace I := I.below bel
  replace T := T.below bel
  replace O := O.below bel
  replace S1 := S1.below bel
  replace HB := HB.trans (bel.mono HB.size)
  clear bel
  clear I
  go_wp2_with fail
  refine (clone7 _ ntk tk _ T bt).mono ?_
  rintro e w' ⟨vt, rfl, T1, bel⟩
  replace T := T.below bel
  replace O := O.below bel
  replace S1 := S1.below bel
  replace I1 := I1.below bel
  replace HB := HB.trans (bel.mono HB.size)
  clear bel
  clear T
  go_wp2_with fail
  refine (clone7 _ nop op _ O bo).mono ?_
  rintro e w' ⟨vo, rfl, O1, bel⟩
  replace O := O.below bel
  replace S1 := S1.below bel
  replace I1 := I1.below bel
  replace T1 := T1.below bel
  replace HB := HB.trans (bel.mono HB.size)
  clear bel
  clear O
  go_wp2_with fail
  refine (clone6 _ nst st _ S1 bs).mono ?_
  rintro e w' ⟨vs0, rfl, S0, bel⟩
  replace S1 := S1.below bel
  replace I1 := I1.below bel
  replace T1 := T1.below bel
  replace O1 := O1.below bel
  replace HB := HB.trans (bel.mono HB.size)
  clear bel
  go_wp2_with fail
  refine (clone7 _ nin inl _ I1 bi).mono ?_
  rintro e w' ⟨vi0, rfl, I0, bel⟩
  replace S1 := S1.below bel
  replace I1 := I1.below bel
  replace T1 := T1.below bel
  replace O1 := O1.below bel
  replace S0 := S0.below bel
  replace HB := HB.trans (bel.mono HB.size)
  clear bel
  go_wp2_with fail
  refine (clone7 _ ntk tk _ T1 bt).mono ?_
  rintro e w' ⟨vt0, rfl, T0, bel⟩
  replace S1 := S1.below bel
  replace I1 := I1.below bel
  replace T1 := T1.below bel
  replace O1 := O1.below bel
  replace S0 := S0.below bel
  replace I0 := I0.below bel
  replace HB := HB.trans (bel.mono HB.size)
  clear bel
  go_wp2_with fail
  refine (clone7 _ nop op _ O1 bo).mono ?_
  rintro e w' ⟨vo0, rfl, O0, bel⟩
  replace S1 := S1.below bel
  replace I1 := I1.below bel
  replace T1 := T1.below bel
  replace O1 := O1.below bel
  replace S0 := S0.below bel
  replace I0 := I0.below bel
  replace T0 := T0.below bel
  replace HB := HB.trans (bel.mono HB.size)
  clear bel
  go_wp2_with fail
  refine (new8 _ _ _ _ nst nin ntk nop dead st inl tk op _ S1 I1 T1 O1 bs).mono ?_
  rintro e w' ⟨Bo, rfl, Ro, bel⟩
  replace S1 := S1.below bel
  replace I1 := I1.below bel
  replace T1 := T1.below bel
  replace O1 := O1.below bel
  replace S0 := S0.below bel
  replace I0 := I0.below bel
  replace T0 := T0.below bel
  replace O0 := O0.below bel
  replace HB := HB.trans (bel.mono HB.size)
  clear bel
  clear S1 I1 T1 O1
  go_wp2_with fail
  refine (without9 Bo x nst ntk nop dead st inl tk op _ Ro bi).mono ?_
  rintro e w' ⟨Ba, rfl, Ra, bel⟩
  replace S0 := S0.below bel
  replace I0 := I0.below bel
  replace T0 := T0.below bel
  replace O0 := O0.below bel
  replace Ro := Ro.below bel
  replace HB := HB.trans (bel.mono HB.size)
  clear bel
  go_wp2_with fail
  refine (without9 Bo y nst ntk nop dead st inl tk op _ Ro bi).mono ?_
  rintro e w' ⟨Bb, rfl, Rb, bel⟩
  replace S0 := S0.below bel
  replace I0 := I0.below bel
  replace T0 := T0.below bel
  replace O0 := O0.below bel
  replace Ro := Ro.below bel
  replace Ra := Ra.below bel
  replace HB := HB.trans (bel.mono HB.size)
  clear bel
  go_wp2_with fail
  refine (without9 Ba y nst ntk nop false st (keep1 x inl) tk op _ Ra bx).mono ?_
  rintro e w' ⟨Bab, rfl, Rab, bel⟩
  replace S0 := S0.below bel
  replace I0 := I0.below bel
  replace T0 := T0.below bel
  replace O0 := O0.below bel
  replace Ro := Ro.below bel
  replace Ra := Ra.below bel
  replace Rb := Rb.below bel
  replace HB := HB.trans (bel.mono HB.size)
  clear bel
  go_wp2_with fail
  refine (without9 Bb x nst ntk nop false st (keep1 y inl) tk op _ Rb byy).mono ?_
  rintro e w' ⟨Bba, rfl, Rba, bel⟩
  replace S0 := S0.below bel
  replace I0 := I0.below bel
  replace T0 := T0.below bel
  replace O0 := O0.below bel
  replace Ro := Ro.below bel
  replace Ra := Ra.below bel
  replace Rb := Rb.below bel
  replace Rab := Rab.below bel
  replace HB := HB.trans (bel.mono HB.size)
  clear bel
  rw [keep1_keep1] at Rab Rba
  rw [keep2_comm] at Rba
  rw [keep1_eq] at Ra Rb
  go_wp2_with fail
  refine (fields10 Ba nst ntk nop false st (keep2 x x inl) tk op _ Ra bs).mono ?_
  rintro e w' ⟨fa1, fa2, fa3, fa4, nn, rfl, faS, faI, faT, faO, bel⟩
  replace S0 := S0.below bel
  replace I0 := I0.below bel
  replace T0 := T0.below bel
  replace O0 := O0.below bel
  replace Ro := Ro.below bel
  replace Ra := Ra.below bel
  replace Rb := Rb.below bel
  replace Rab := Rab.below bel
  replace Rba := Rba.below bel
  replace HB := HB.trans (bel.mono HB.size)
  clear bel
  clear Ra
  go_wp2_with fail
  refine (drop12 _ nin inl x x _ I0 bi).mono ?_
  rintro e w' ⟨vDx, nn', rfl, Dx, bel⟩
  replace S0 := S0.below bel
  replace I0 := I0.below bel
  replace T0 := T0.below bel
  replace O0 := O0.below bel
  replace Ro := Ro.below bel
  replace Rb := Rb.below bel
  replace Rab := Rab.below bel
  replace Rba := Rba.below bel
  replace faS := faS.below bel
  replace faI := faI.below bel
  replace faT := faT.below bel
  replace faO := faO.below bel
  replace HB := HB.trans (bel.mono HB.size)
  clear bel
  go_wp2_with fail
  refine (eq11b _ _ _ _ (keep2 x x inl) _ faI Dx bxx).mono ?_
  rintro e w' ⟨rfl, bel⟩
  replace S0 := S0.below bel
  replace I0 := I0.below bel
  replace T0 := T0.below bel
  replace O0 := O0.below bel
  replace Ro := Ro.below bel
  replace Rb := Rb.below bel
  replace Rab := Rab.below bel
  replace Rba := Rba.below bel
  replace faS := faS.below bel
  replace faI := faI.below bel
  replace faT := faT.below bel
  replace faO := faO.below bel
  replace Dx := Dx.below bel
  replace HB := HB.trans (bel.mono HB.size)
  clear bel
  go_wp2_with fail
  refine (rest13b _ _ _ _ _ _ nst ntk nop st tk op _ faS S0 faT T0 faO O0 bs bt bo).mono ?_
  rintro e w' ⟨rfl, bel⟩
  replace S0 := S0.below bel
  replace I0 := I0.below bel
  replace T0 := T0.below bel
  replace O0 := O0.below bel
  replace Ro := Ro.below bel
  replace Rb := Rb.below bel
  replace Rab := Rab.below bel
  replace Rba := Rba.below bel
  replace faS := faS.below bel
  replace faI := faI.below bel
  replace faT := faT.below bel
  replace faO := faO.below bel
  replace Dx := Dx.below bel
  replace HB := HB.trans (bel.mono HB.size)
  clear bel
  clear Dx faS faI faT faO
  go_wp2_with fail
  refine (fields10 Bb nst ntk nop false st (keep2 y y inl) tk op _ Rb bs).mono ?_
  rintro e w' ⟨fb1, fb2, fb3, fb4, nn, rfl, fbS, fbI, fbT, fbO, bel⟩
  replace S0 := S0.below bel
  replace I0 := I0.below bel
  replace T0 := T0.below bel
  replace O0 := O0.below bel
  replace Ro := Ro.below bel
  replace Rb := Rb.below bel
  replace Rab := Rab.below bel
  replace Rba := Rba.below bel
  replace HB := HB.trans (bel.mono HB.size)
  clear bel
  clear Rb
  go_wp2_with fail
  refine (drop12 _ nin inl y y _ I0 bi).mono ?_
  rintro e w' ⟨vDy, nn', rfl, Dy, bel⟩
  replace S0 := S0.below bel
  replace I0 := I0.below bel
  replace T0 := T0.below bel
  replace O0 := O0.below bel
  replace Ro := Ro.below bel
  replace Rab := Rab.below bel
  replace Rba := Rba.below bel
  replace fbS := fbS.below bel
  replace fbI := fbI.below bel
  replace fbT := fbT.below bel
  replace fbO := fbO.below bel
  replace HB := HB.trans (bel.mono HB.size)
  clear bel
  go_wp2_with fail
  refine (eq11b _ _ _ _ (keep2 y y inl) _ fbI Dy byy2).mono ?_
  rintro e w' ⟨rfl, bel⟩
  replace S0 := S0.below bel
  replace I0 := I0.below bel
  replace T0 := T0.below bel
  replace O0 := O0.below bel
  replace Ro := Ro.below bel
  replace Rab := Rab.below bel
  replace Rba := Rba.below bel
  replace fbS := fbS.below bel
  replace fbI := fbI.below bel
  replace fbT := fbT.below bel
  replace fbO := fbO.below bel
  replace Dy := Dy.below bel
  replace HB := HB.trans (bel.mono HB.size)
  clear bel
  go_wp2_with fail
  refine (rest13b _ _ _ _ _ _ nst ntk nop st tk op _ fbS S0 fbT T0 fbO O0 bs bt bo).mono ?_
  rintro e w' ⟨rfl, bel⟩
  replace S0 := S0.below bel
  replace I0 := I0.below bel
  replace T0 := T0.below bel
  replace O0 := O0.below bel
  replace Ro := Ro.below bel
  replace Rab := Rab.below bel
  replace Rba := Rba.below bel
  replace fbS := fbS.below bel
  replace fbI := fbI.below bel
  replace fbT := fbT.below bel
  replace fbO := fbO.below bel
  replace Dy := Dy.below bel
  replace HB := HB.trans (bel.mono HB.size)
  clear bel
  clear Dy fbS fbI fbT fbO
  go_wp2_with fail
  refine (drop12 _ nin inl x y _ I0 bi).mono ?_
  rintro e w' ⟨vDxy, nn', rfl, Dxy, bel⟩
  replace S0 := S0.below bel
  replace I0 := I0.below bel
  replace T0 := T0.below bel
  replace O0 := O0.below bel
  replace Ro := Ro.below bel
  replace Rab := Rab.below bel
  replace Rba := Rba.below bel
  replace HB := HB.trans (bel.mono HB.size)
  clear bel
  go_wp2_with fail
  refine (fields10 Bab nst ntk nop false st (keep2 x y inl) tk op _ Rab bs).mono ?_
  rintro e w' ⟨fc1, fc2, fc3, fc4, nn, rfl, fcS, fcI, fcT, fcO, bel⟩
  replace S0 := S0.below bel
  replace I0 := I0.below bel
  replace T0 := T0.below bel
  replace O0 := O0.below bel
  replace Ro := Ro.below bel
  replace Rab := Rab.below bel
  replace Rba := Rba.below bel
  replace Dxy := Dxy.below bel
  replace HB := HB.trans (bel.mono HB.size)
  clear bel
  clear Rab
  go_wp2_with fail
  refine (eq11b _ _ _ _ (keep2 x y inl) _ fcI Dxy bxy).mono ?_
  rintro e w' ⟨rfl, bel⟩
  replace S0 := S0.below bel
  replace I0 := I0.below bel
  replace T0 := T0.below bel
  replace O0 := O0.below bel
  replace Ro := Ro.below bel
  replace Rba := Rba.below bel
  replace Dxy := Dxy.below bel
  replace fcS := fcS.below bel
  replace fcI := fcI.below bel
  replace fcT := fcT.below bel
  replace fcO := fcO.below bel
  replace HB := HB.trans (bel.mono HB.size)
  clear bel
  go_wp2_with fail
  refine (rest13b _ _ _ _ _ _ nst ntk nop st tk op _ fcS S0 fcT T0 fcO O0 bs bt bo).mono ?_
  rintro e w' ⟨rfl, bel⟩
  replace S0 := S0.below bel
  replace I0 := I0.below bel
  replace T0 := T0.below bel
  replace O0 := O0.below bel
  replace Ro := Ro.below bel
  replace Rba := Rba.below bel
  replace Dxy := Dxy.below bel
  replace fcS := fcS.below bel
  replace fcI := fcI.below bel
  replace fcT := fcT.below bel
  replace fcO := fcO.below bel
  replace HB := HB.trans (bel.mono HB.size)
  clear bel
  clear fcS fcI fcT fcO
  go_wp2_with fail
  refine (fields10 Bba nst ntk nop false st (keep2 x y inl) tk op _ Rba bs).mono ?_
  rintro e w' ⟨fd1, fd2, fd3, fd4, nn, rfl, fdS, fdI, fdT, fdO, bel⟩
  replace S0 := S0.below bel
  replace I0 := I0.below bel
  replace T0 := T0.below bel
  replace O0 := O0.below bel
  replace Ro := Ro.below bel
  replace Rba := Rba.below bel
  replace Dxy := Dxy.below bel
  replace HB := HB.trans (bel.mono HB.size)
  clear bel
  clear Rba
  go_wp2_with fail
  refine (eq11b _ _ _ _ (keep2 x y inl) _ fdI Dxy bxy).mono ?_
  rintro e w' ⟨rfl, bel⟩
  replace S0 := S0.below bel
  replace I0 := I0.below bel
  replace T0 := T0.below bel
  replace O0 := O0.below bel
  replace Ro := Ro.below bel
  replace Dxy := Dxy.below bel
  replace fdS := fdS.below bel
  replace fdI := fdI.below bel
  replace fdT := fdT.below bel
  replace fdO := fdO.below bel
  replace HB := HB.trans (bel.mono HB.size)
  clear bel
  go_wp2_with fail
  refine (rest13b _ _ _ _ _ _ nst ntk nop st tk op _ fdS S0 fdT T0 fdO O0 bs bt bo).mono ?_
  rintro e w' ⟨rfl, bel⟩
  replace S0 := S0.below bel
  replace I0 := I0.below bel
  replace T0 := T0.below bel
  replace O0 := O0.below bel
  replace Ro := Ro.below bel
  replace Dxy := Dxy.below bel
  replace fdS := fdS.below bel
  replace fdI := fdI.below bel
  replace fdT := fdT.below bel
  replace fdO := fdO.below bel
  replace HB := HB.trans (bel.mono HB.size)
  clear bel
  clear fdS fdI fdT fdO Dxy
  go_wp2_with fail
  refine (fields10 Bo nst ntk nop dead st inl tk op _ Ro bs).mono ?_
  rintro e w' ⟨fo1, fo2, fo3, fo4, nn, rfl, foS, foI, foT, foO, bel⟩
  replace S0 := S0.below bel
  replace I0 := I0.below bel
  replace T0 := T0.below bel
  replace O0 := O0.below bel
  replace Ro := Ro.below bel
  replace HB := HB.trans (bel.mono HB.size)
  clear bel
  clear Ro
  go_wp2_with fail
  refine (eq11b _ _ _ _ inl _ foI I0 bi).mono ?_
  rintro e w' ⟨rfl, bel⟩
  replace S0 := S0.below bel
  replace I0 := I0.below bel
  replace T0 := T0.below bel
  replace O0 := O0.below bel
  replace foS := foS.below bel
  replace foI := foI.below bel
  replace foT := foT.below bel
  replace foO := foO.below bel
  replace HB := HB.trans (bel.mono HB.size)
  clear bel
  go_wp2_with fail
  refine (same14b _ _ nst st _ foS S0 bs).mono ?_
  rintro e w' ⟨rfl, bel⟩
  replace S0 := S0.below bel
  replace I0 := I0.below bel
  replace T0 := T0.below bel
  replace O0 := O0.below bel
  replace foS := foS.below bel
  replace foI := foI.below bel
  replace foT := foT.below bel
  replace foO := foO.below bel
  replace HB := HB.trans (bel.mono HB.size)
  clear bel
  go_wp2_with fail
  refine (same15b _ _ ntk tk _ foT T0 bt).mono ?_
  rintro e w' ⟨rfl, bel⟩
  replace S0 := S0.below bel
  replace I0 := I0.below bel
  replace T0 := T0.below bel
  replace O0 := O0.below bel
  replace foS := foS.below bel
  replace foI := foI.below bel
  replace foT := foT.below bel
  replace foO := foO.below bel
  replace HB := HB.trans (bel.mono HB.size)
  clear bel
  go_wp2_with fail
  refine (same15b _ _ nop op _ foO O0 bo).mono ?_
  rintro e w' ⟨rfl, bel⟩
  replace S0 := S0.below bel
  replace I0 := I0.below bel
  replace T0 := T0.below bel
  replace O0 := O0.below bel
  replace foS := foS.below bel
  replace foI := foI.below bel
  replace foT := foT.below bel
  replace foO := foO.below bel
  replace HB := HB.trans (bel.mono HB.size)
  clear bel
  go_wp2_with fail
  go_ret
  exact ⟨rfl, HB⟩

end Go.Proofs.Qxb6614197a
