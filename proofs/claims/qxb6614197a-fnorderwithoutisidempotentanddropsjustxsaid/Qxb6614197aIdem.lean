import Derived.Test.Qxb6614197aIdemPlain
namespace Go.Proofs.Qxb6614197a
open Go.RowKit

set_option maxHeartbeats 16000000 in
set_option maxRecDepth 100000 in
theorem idem_walk (a0 a1 a2 a3 : Option Addr) (n0 c0 n1 c1 n2 c2 n3 c3 : Nat) (dead : Bool) (x : Int) (nst nin ntk nop : Bool) (st inl tk op : List Int) (w : World)
    (S : SlIs .i32 w (.slice a0 n0 c0) nst st) (I : SlIs .i64 w (.slice a1 n1 c1) nin inl) (T : SlIs .i64 w (.slice a2 n2 c2) ntk tk) (O : SlIs .i64 w (.slice a3 n3 c3) nop op)
    (bs : st.length ≤ 1048576) (bi : inl.length ≤ 1048576) (bt : tk.length ≤ 1048576) (bo : op.length ≤ 1048576) (hn1 : Hid (n1 = inl.length))
    (l0 : n0 ≤ 262144) (l1 : n1 ≤ 131072) (l2 : n2 ≤ 131072) (l3 : n3 ≤ 131072) (hsum : 4 * n0 + 8 * n1 + 8 * n2 + 8 * n3 ≤ 1048576) :
    Calls Try.prog 4 #[.slice a0 n0 c0, .slice a1 n1 c1, .slice a2 n2 c2, .slice a3 n3 c3, .bool dead, .int .i64 x] w fun e w' => e = .returned (.bool true) ∧ Below w.heap.size w w' := by
  have hd : decide (n0 + n1 + n2 + n3 ≤ 1048576) = true := by rw [decide_eq_true_eq]; omega
  have bx := Nat.le_trans (keep1_le x inl) bi
  have HB : Below w.heap.size w w := Below.refl _ _
  go_enter Try.func4, Try.ntmps4
  go_wp2_with fail
  refine (bytes16 a0 a1 a2 a3 n0 c0 n1 c1 n2 c2 n3 c3 dead x w (by omega) (by omega) (by omega) (by omega)).mono ?_
  rintro e w' ⟨rfl, rfl⟩
  rw [hd]
  clear hd
  go_wp2_with fail
  go_loopw [13] (fun i wr => ∃ (k q : Nat), k ≤ n1 ∧ i = .int .i64 (k + 1) ∧ wr = w'.drewN q ∧ Asc inl (k + 1)) (fun i _ => n1 + 1 - (intOf i).toNat)
  case atStart => exact ⟨0, 0, Nat.zero_le _, rfl, rfl, fun i hi => by omega⟩
  case round =>
    obtain ⟨k, q, hk, rfl, hwr, hasc⟩ := hrel
    subst hwr
    by_cases hlt : k + 1 < n1
    · have hltz : (k : Int) + 1 < (n1 : Int) := by omega
      obtain ⟨b, off, ha1, _, hc⟩ := I.at (by omega)
      have hcell1 := hc k (by omega)
      have hcell2 := hc (k + 1) hlt
      obtain ⟨u, hu⟩ : ∃ u, u = inl.getD k 0 := ⟨_, rfl⟩
      obtain ⟨v, hv⟩ : ∃ v, v = inl.getD (k + 1) 0 := ⟨_, rfl⟩
      rw [← hu] at hcell1
      rw [← hv] at hcell2
      have HU : Hid (u = inl.getD k 0) := hu
      have HV : Hid (v = inl.getD (k + 1) 0) := hv
      clear hc hu hv S I T O
      subst ha1
      by_cases hle : u ≤ v
      · have HA : Asc inl (k + 1 + 1) := hasc.next HU.out HV.out hle
        go_wp2
        go_quiet (fail)
        go_wp2
        go_roundw
        case rel => exact ⟨k + 1, q + nq, by omega, by go_num, by simp, HA⟩
        case measure => simp [intOf]; omega
      · have hgt : v < u := by omega
        clear hle
        go_wp2
        go_quiet (fail)
        go_wp2
        go_ret
        exact ⟨rfl, below_drewN (below_drewN HB _) _⟩
    · have hasc2 : Asc inl inl.length := fun i hi => hasc i (by have := hn1.out; omega)
      have hkeep := hasc2.keep x
      clear hasc hasc2
      have hltz : ¬ (k : Int) + 1 < (n1 : Int) := by omega
      have bel := below_drewN (Below.refl w'.heap.size w') q
      replace S := S.below bel
      replace I := I.below bel
      replace T := T.below bel
      replace O := O.below bel
      replace HB := below_drewN HB q
      clear bel
      go_wp2_with fail
      refine (clone6 _ nst st _ S bs).mono ?_
      rintro e w' ⟨vs, rfl, S1, bel⟩
      replace S := S.below bel
      replace I := I.below bel
      replace T := T.below bel
      replace O := O.below bel
      replace HB := HB.trans (bel.mono HB.size)
      clear bel
      clear S
      go_wp2_with fail
      refine (clone7 _ nin inl _ I bi).mono ?_
      rintro e w' ⟨vi, rfl, I1, bel⟩
      replace I := I.below bel
      replace T := T.below bel
      replace O := O.below bel
      replace S1 := S1.below bel
      replace HB := HB.trans (bel.mono HB.size)
      clear bel
      clear I
      go_wp2_with fail
      refine (clone7 _ ntk tk _ T bt).mono ?_
      rintro e w' ⟨vt, rfl, T1, bel⟩
      replace T := T.below bel
      replace O := O.below bel
      replace S1 := S1.below bel
      replace I1 := I1.below bel
      replace HB := HB.trans (bel.mono HB.size)
      clear bel
      clear T
      go_wp2_with fail
      refine (clone7 _ nop op _ O bo).mono ?_
      rintro e w' ⟨vo, rfl, O1, bel⟩
      replace O := O.below bel
      replace S1 := S1.below bel
      replace I1 := I1.below bel
      replace T1 := T1.below bel
      replace HB := HB.trans (bel.mono HB.size)
      clear bel
      clear O
      go_wp2_with fail
      refine (clone6 _ nst st _ S1 bs).mono ?_
      rintro e w' ⟨vs0, rfl, S0, bel⟩
      replace S1 := S1.below bel
      replace I1 := I1.below bel
      replace T1 := T1.below bel
      replace O1 := O1.below bel
      replace HB := HB.trans (bel.mono HB.size)
      clear bel
      go_wp2_with fail
      refine (clone7 _ nin inl _ I1 bi).mono ?_
      rintro e w' ⟨vi0, rfl, I0, bel⟩
      replace S1 := S1.below bel
      replace I1 := I1.below bel
      replace T1 := T1.below bel
      replace O1 := O1.below bel
      replace S0 := S0.below bel
      replace HB := HB.trans (bel.mono HB.size)
      clear bel
      go_wp2_with fail
      refine (clone7 _ ntk tk _ T1 bt).mono ?_
      rintro e w' ⟨vt0, rfl, T0, bel⟩
      replace S1 := S1.below bel
      replace I1 := I1.below bel
      replace T1 := T1.below bel
      replace O1 := O1.below bel
      replace S0 := S0.below bel
      replace I0 := I0.below bel
      replace HB := HB.trans (bel.mono HB.size)
      clear bel
      go_wp2_with fail
      refine (clone7 _ nop op _ O1 bo).mono ?_
      rintro e w' ⟨vo0, rfl, O0, bel⟩
      replace S1 := S1.below bel
      replace I1 := I1.below bel
      replace T1 := T1.below bel
      replace O1 := O1.below bel
      replace S0 := S0.below bel
      replace I0 := I0.below bel
      replace T0 := T0.below bel
      replace HB := HB.trans (bel.mono HB.size)
      clear bel
      go_wp2_with fail
      refine (new8 _ _ _ _ nst nin ntk nop dead st inl tk op _ S1 I1 T1 O1 bs).mono ?_
      rintro e w' ⟨Bo, rfl, Ro, bel⟩
      replace S1 := S1.below bel
      replace I1 := I1.below bel
      replace T1 := T1.below bel
      replace O1 := O1.below bel
      replace S0 := S0.below bel
      replace I0 := I0.below bel
      replace T0 := T0.below bel
      replace O0 := O0.below bel
      replace HB := HB.trans (bel.mono HB.size)
      clear bel
      clear S1 I1 T1 O1
      go_wp2_with fail
      refine (without9 Bo x nst ntk nop dead st inl tk op _ Ro bi).mono ?_
      rintro e w' ⟨Ba, rfl, Ra, bel⟩
      replace S0 := S0.below bel
      replace I0 := I0.below bel
      replace T0 := T0.below bel
      replace O0 := O0.below bel
      replace Ro := Ro.below bel
      replace HB := HB.trans (bel.mono HB.size)
      clear bel
      go_wp2_with fail
      refine (without9 Ba x nst ntk nop false st (keep1 x inl) tk op _ Ra bx).mono ?_
      rintro e w' ⟨Baa, rfl, Raa, bel⟩
      replace S0 := S0.below bel
      replace I0 := I0.below bel
      replace T0 := T0.below bel
      replace O0 := O0.below bel
      replace Ro := Ro.below bel
      replace Ra := Ra.below bel
      replace HB := HB.trans (bel.mono HB.size)
      clear bel
      rw [keep1_keep1_self] at Raa
      go_wp2_with fail
      refine (fields10 Ba nst ntk nop false st (keep1 x inl) tk op _ Ra bs).mono ?_
      rintro e w' ⟨fa1, fa2, fa3, fa4, nn, rfl, faS, faI, faT, faO, bel⟩
      replace S0 := S0.below bel
      replace I0 := I0.below bel
      replace T0 := T0.below bel
      replace O0 := O0.below bel
      replace Ro := Ro.below bel
      replace Ra := Ra.below bel
      replace Raa := Raa.below bel
      replace HB := HB.trans (bel.mono HB.size)
      clear bel
      clear Ra
      go_wp2_with fail
      refine (rest13b _ _ _ _ _ _ nst ntk nop st tk op _ faS S0 faT T0 faO O0 bs bt bo).mono ?_
      rintro e w4 ⟨rfl, bel⟩
      replace S0 := S0.below bel
      replace I0 := I0.below bel
      replace T0 := T0.below bel
      replace O0 := O0.below bel
      replace Ro := Ro.below bel
      replace Raa := Raa.below bel
      replace faS := faS.below bel
      replace faI := faI.below bel
      replace faT := faT.below bel
      replace faO := faO.below bel
      replace HB := HB.trans (bel.mono HB.size)
      clear bel
      clear faS faT faO
      obtain ⟨ai, ci, hvi, _⟩ := I0.form2
      obtain ⟨ak, ck, hvk, _⟩ := faI.form2
      subst hvi hvk
      have hcall := cnt_all x inl
      have HCA : Hid ((keep1 x inl).length + cnt x inl inl.length = inl.length) := hcall
      clear hcall
      obtain ⟨n, hn⟩ : ∃ n, n = inl.length := ⟨_, rfl⟩
      obtain ⟨ks, hks⟩ : ∃ ks, ks = keep1 x inl := ⟨_, rfl⟩
      obtain ⟨m, hm⟩ : ∃ m, m = ks.length := ⟨_, rfl⟩
      rw [← hks] at Raa faI bx HCA hkeep
      rw [← hks, ← hm]
      rw [← hm] at faI bx HCA hkeep
      rw [← hn]
      rw [← hn] at I0 bi HCA
      have HN : Hid (n = inl.length) := hn
      have HK : Hid (ks = keep1 x inl) := hks
      have HM : Hid (m = ks.length) := hm
      clear hn hks hm
      go_wp2_with fail
      go_loopw [26, 27] (fun c i wr => ∃ (k : Nat), k ≤ n ∧ i = .int .i64 k ∧ c = .int .i64 (cnt x inl k) ∧ wr = w4) (fun _ i _ => n - (intOf i).toNat)
      case atStart => exact ⟨0, Nat.zero_le _, rfl, rfl, rfl⟩
      case round =>
        obtain ⟨k, hk, rfl, rfl, hwr⟩ := hrel
        replace hwr := hwr.symm
        subst hwr
        have hcl := cnt_le x inl k
        by_cases hlt : k < n
        · obtain ⟨b, off, ha1, _, hc⟩ := I0.at (by omega)
          have hcell := hc k hlt
          obtain ⟨u, hu⟩ : ∃ u, u = inl.getD k 0 := ⟨_, rfl⟩
          rw [← hu] at hcell
          have HU : Hid (u = inl.getD k 0) := hu
          have hkz : k < inl.length := by have := HN.out; omega
          clear hc hu S0 I0 T0 O0 Ro Raa faI
          subst ha1
          by_cases he : (u == x) = true
          · have HC : Hid (cnt x inl (k + 1) = cnt x inl k + 1) := cnt_hit x inl k hkz HU.out he
            go_wp2
            go_roundw
            case rel => exact ⟨k + 1, by omega, by go_num, by rw [HC.out]; go_num, by first | rfl | trivial⟩
            case measure => simp [intOf]; omega
          · have he' : (u == x) = false := by simpa using he
            have HC : Hid (cnt x inl (k + 1) = cnt x inl k) := cnt_miss x inl k hkz HU.out he'
            clear he
            go_wp2
            go_roundw
            case rel => exact ⟨k + 1, by omega, by go_num, by rw [HC.out], by first | rfl | trivial⟩
            case measure => simp [intOf]; omega
        · obtain rfl : k = n := by omega
          have hcnt : Hid (m + cnt x inl k = k) := HCA
          generalize cnt x inl k = cc at hcnt hcl
          have hltz : ¬ (k : Int) < (k : Int) := by omega
          have hsub : (k : Int) - (cc : Int) = (m : Int) := by have := hcnt.out; omega
          have hmk : m ≤ k := by have := hcnt.out; omega
          clear hcnt
          go_wp2_with fail
          go_loopw [28, 29] (fun j i wr => ∃ (jj ii q : Nat), ii ≤ m ∧ i = .int .i64 ii ∧ j = .int .i64 jj ∧ wr = w4.drewN q ∧ jj ≤ k ∧ At x inl ks ii jj) (fun _ i _ => m - (intOf i).toNat)
          case atStart => exact ⟨0, 0, 0, Nat.zero_le _, rfl, rfl, rfl, Nat.zero_le _, by rw [HK.out]; exact At.start x inl⟩
          case round =>
            obtain ⟨jj, ii, q, hii, rfl, rfl, hwr, hjj, hat⟩ := hrel
            subst hwr
            by_cases hlt : ii < m
            · skip
              obtain ⟨b2, off2, ha2, hm2, hc2⟩ := faI.at (by omega)
              have hcellk := hc2 ii hlt
              have hprev : ∀ p, ii = p + 1 → w4.cell? ⟨b2, off2 + p, none⟩ = some (.int .i64 (ks.getD p 0)) := fun p hp => hc2 p (by omega)
              obtain ⟨u, hu⟩ : ∃ u, u = ks.getD ii 0 := ⟨_, rfl⟩
              rw [← hu] at hcellk
              have HU : Hid (u = ks.getD ii 0) := hu
              have hiz : ii < ks.length := by have := HM.out; omega
              have hux : (u == x) = false := keep1_ne x inl ii (by rw [← HK.out]; exact hiz) (by rw [← HK.out]; exact hu)
              have hle : ∀ p, ii = p + 1 → ks.getD p 0 ≤ u := fun p hp => by rw [hu, hp]; exact hkeep p (by omega)
              have hjz := hat.lt hiz
              obtain ⟨b1, off1, ha1, hk1, hc1⟩ := I0.at (show 0 < k by have := HN.out; omega)
              clear hc2 hu S0 I0 T0 O0 Ro Raa faI hm2
              subst ha1 ha2
              have HC1 : Hid (∀ j, j < k → w4.cell? ⟨b1, off1 + j, none⟩ = some (.int .i64 (inl.getD j 0))) := hc1
              clear hc1 hk1 hkeep
              have hltz : (ii : Int) < (m : Int) := by omega
              -- behind the two tests: the inner loop and the step
              have hinner : ∀ (P : Prop), P → P := fun _ h => h
              cases ii with
              | zero =>
                clear hprev hle
                rw [Nat.add_zero] at hcellk
                go_wp2
                go_quiet (fail)
                go_wp2
                go_loopw [28] (fun j wr => ∃ (j1 q1 : Nat), j = .int .i64 j1 ∧ wr = w4.drewN q1 ∧ j1 ≤ k ∧ At x inl ks 0 j1) (fun j _ => k - (intOf j).toNat)
                case atStart => exact ⟨jj, _, rfl, by simp; rfl, hjj, hat⟩
                case round =>
                  obtain ⟨j1, q1, rfl, hwr1, hj1, hat1⟩ := hrel
                  subst hwr1
                  have hj1z : j1 < k := by have := hat1.lt hiz; have := HN.out; omega
                  have hj1i : (j1 : Int) < (k : Int) := by omega
                  have hcellj := HC1.out j1 hj1z
                  obtain ⟨z, hz⟩ : ∃ z, z = inl.getD j1 0 := ⟨_, rfl⟩
                  rw [← hz] at hcellj
                  have HZ : Hid (z = inl.getD j1 0) := hz
                  clear hz
                  by_cases hne : (z != u) = true
                  · have hat2 := hat1.skip hiz HU.out HZ.out hne
                    clear hat1
                    go_wp2
                    go_quiet (fail)
                    go_wp2
                    go_roundw
                    case rel => exact ⟨j1 + 1, q1 + nq, by go_num, by simp, by omega, hat2⟩
                    case measure => simp [intOf]; omega
                  · have hne' : (z != u) = false := by simpa using hne
                    have hat2 := hat1.step hiz HU.out HZ.out hne' hux
                    have hjne : ((j1 : Int) == (k : Int)) = false := beq_eq_false_iff_ne.2 (by omega)
                    clear hat1 hne
                    go_wp2
                    go_quiet (fail)
                    go_wp2
                    go_roundw
                    case rel => exact ⟨j1 + 1, 0 + 1, q1 + nq, by omega, by go_num, by go_num, by simp, by omega, hat2⟩
                    case measure => simp [intOf]; omega
              | succ p =>
                have hcellp := hprev p rfl
                have hle2 := hle p rfl
                generalize ks.getD p 0 = up at hcellp hle2
                clear hprev hle
                go_wp2
                go_quiet (fail)
                go_wp2
                go_loopw [28] (fun j wr => ∃ (j1 q1 : Nat), j = .int .i64 j1 ∧ wr = w4.drewN q1 ∧ j1 ≤ k ∧ At x inl ks (p + 1) j1) (fun j _ => k - (intOf j).toNat)
                case atStart => exact ⟨jj, _, rfl, by simp; rfl, hjj, hat⟩
                case round =>
                  obtain ⟨j1, q1, rfl, hwr1, hj1, hat1⟩ := hrel
                  subst hwr1
                  have hj1z : j1 < k := by have := hat1.lt hiz; have := HN.out; omega
                  have hj1i : (j1 : Int) < (k : Int) := by omega
                  have hcellj := HC1.out j1 hj1z
                  obtain ⟨z, hz⟩ : ∃ z, z = inl.getD j1 0 := ⟨_, rfl⟩
                  rw [← hz] at hcellj
                  have HZ : Hid (z = inl.getD j1 0) := hz
                  clear hz
                  by_cases hne : (z != u) = true
                  · have hat2 := hat1.skip hiz HU.out HZ.out hne
                    clear hat1
                    go_wp2
                    go_quiet (fail)
                    go_wp2
                    go_roundw
                    case rel => exact ⟨j1 + 1, q1 + nq, by go_num, by simp, by omega, hat2⟩
                    case measure => simp [intOf]; omega
                  · have hne' : (z != u) = false := by simpa using hne
                    have hat2 := hat1.step hiz HU.out HZ.out hne' hux
                    have hjne : ((j1 : Int) == (k : Int)) = false := beq_eq_false_iff_ne.2 (by omega)
                    clear hat1 hne
                    go_wp2
                    go_quiet (fail)
                    go_wp2
                    go_roundw
                    case rel => exact ⟨j1 + 1, (p + 1) + 1, q1 + nq, by omega, by go_num, by go_num, by simp, by omega, hat2⟩
                    case measure => simp [intOf]; omega
            · have hltz2 : ¬ (ii : Int) < (m : Int) := by omega
              clear hat hkeep
              have bel := below_drewN (Below.refl w4.heap.size w4) q
              replace S0 := S0.below bel
              replace I0 := I0.below bel
              replace T0 := T0.below bel
              replace O0 := O0.below bel
              replace Ro := Ro.below bel
              replace Raa := Raa.below bel
              replace faI := faI.below bel
              replace HB := below_drewN HB q
              clear bel
              rw [HK.out] at Raa faI
              go_wp2_with fail
              refine (fields10 Baa nst ntk nop false st (keep1 x inl) tk op _ Raa bs).mono ?_
              rintro e w5 ⟨fb1, fb2, fb3, fb4, nn, rfl, fbS, fbI, fbT, fbO, bel⟩
              replace S0 := S0.below bel
              replace I0 := I0.below bel
              replace T0 := T0.below bel
              replace O0 := O0.below bel
              replace Ro := Ro.below bel
              replace Raa := Raa.below bel
              replace faI := faI.below bel
              replace HB := HB.trans (bel.mono HB.size)
              clear bel
              clear Raa
              go_wp2_with fail
              refine (eq11b _ _ _ _ (keep1 x inl) _ fbI faI (by rw [← HK.out, ← HM.out]; exact bx)).mono ?_
              rintro e w' ⟨rfl, bel⟩
              replace S0 := S0.below bel
              replace I0 := I0.below bel
              replace T0 := T0.below bel
              replace O0 := O0.below bel
              replace Ro := Ro.below bel
              replace faI := faI.below bel
              replace fbS := fbS.below bel
              replace fbI := fbI.below bel
              replace fbT := fbT.below bel
              replace fbO := fbO.below bel
              replace HB := HB.trans (bel.mono HB.size)
              clear bel
              go_wp2_with fail
              refine (rest13b _ _ _ _ _ _ nst ntk nop st tk op _ fbS S0 fbT T0 fbO O0 bs bt bo).mono ?_
              rintro e w' ⟨rfl, bel⟩
              replace S0 := S0.below bel
              replace I0 := I0.below bel
              replace T0 := T0.below bel
              replace O0 := O0.below bel
              replace Ro := Ro.below bel
              replace faI := faI.below bel
              replace fbS := fbS.below bel
              replace fbI := fbI.below bel
              replace fbT := fbT.below bel
              replace fbO := fbO.below bel
              replace HB := HB.trans (bel.mono HB.size)
              clear bel
              clear fbS fbI fbT fbO faI
              go_wp2_with fail
              refine (fields10 Bo nst ntk nop dead st inl tk op _ Ro bs).mono ?_
              rintro e w' ⟨fo1, fo2, fo3, fo4, nn, rfl, foS, foI, foT, foO, bel⟩
              replace S0 := S0.below bel
              replace I0 := I0.below bel
              replace T0 := T0.below bel
              replace O0 := O0.below bel
              replace Ro := Ro.below bel
              replace HB := HB.trans (bel.mono HB.size)
              clear bel
              clear Ro
              go_wp2_with fail
              refine (eq11b _ _ _ _ inl _ foI I0 (by rw [← HN.out]; exact bi)).mono ?_
              rintro e w' ⟨rfl, bel⟩
              replace S0 := S0.below bel
              replace I0 := I0.below bel
              replace T0 := T0.below bel
              replace O0 := O0.below bel
              replace foS := foS.below bel
              replace foI := foI.below bel
              replace foT := foT.below bel
              replace foO := foO.below bel
              replace HB := HB.trans (bel.mono HB.size)
              clear bel
              go_wp2_with fail
              refine (same14b _ _ nst st _ foS S0 bs).mono ?_
              rintro e w' ⟨rfl, bel⟩
              replace S0 := S0.below bel
              replace I0 := I0.below bel
              replace T0 := T0.below bel
              replace O0 := O0.below bel
              replace foS := foS.below bel
              replace foI := foI.below bel
              replace foT := foT.below bel
              replace foO := foO.below bel
              replace HB := HB.trans (bel.mono HB.size)
              clear bel
              go_wp2_with fail
              refine (same15b _ _ ntk tk _ foT T0 bt).mono ?_
              rintro e w' ⟨rfl, bel⟩
              replace S0 := S0.below bel
              replace I0 := I0.below bel
              replace T0 := T0.below bel
              replace O0 := O0.below bel
              replace foS := foS.below bel
              replace foI := foI.below bel
              replace foT := foT.below bel
              replace foO := foO.below bel
              replace HB := HB.trans (bel.mono HB.size)
              clear bel
              go_wp2_with fail
              refine (same15b _ _ nop op _ foO O0 bo).mono ?_
              rintro e w' ⟨rfl, bel⟩
              replace S0 := S0.below bel
              replace I0 := I0.below bel
              replace T0 := T0.below bel
              replace O0 := O0.below bel
              replace foS := foS.below bel
              replace foI := foI.below bel
              replace foT := foT.below bel
              replace foO := foO.below bel
              replace HB := HB.trans (bel.mono HB.size)
              clear bel
              go_wp2_with fail
              go_ret
              exact ⟨rfl, HB⟩

end Go.Proofs.Qxb6614197a
