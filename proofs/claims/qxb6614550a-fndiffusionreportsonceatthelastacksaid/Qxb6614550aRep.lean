import Derived.Test.Qxb6614550aDoubt
namespace Go.Proofs.Qxb6614550a
open Go.RowKit

/-- Was one of the first k in doubt? -/
def anyTo (B : Nat → Bool) : Nat → Bool
  | 0 => false
  | k + 1 => anyTo B k || B k
theorem anyTo_yes (B : Nat → Bool) (k : Nat) (h : B k = true) : anyTo B (k + 1) = true := by simp [anyTo, h]
theorem anyTo_no (B : Nat → Bool) (k : Nat) (h : B k = false) {s : Bool} (hs : s = anyTo B k) : anyTo B (k + 1) = s := by simp [anyTo, h, hs]

theorem bytes6 (root : Bool) (par : ByteArray) (a : Option Addr) (n c : Nat) (w : World) (h1 : par.size ≤ 9223372036854775807) (h2 : n ≤ 9223372036854775807) :
    Calls Try.prog 6 #[.bool root, .string par, .slice a n c] w fun e w' => e = .returned (.bool (decide (par.size + n ≤ 1048576))) ∧ w' = w := by
  go_enter Try.func6, Try.ntmps6
  go_wp2
  all_goals (go_ret; refine ⟨congrArg (fun b => Ending.returned (Value.bool b)) ?_, rfl⟩; first | (symm; rw [decide_eq_true_eq]; omega) | (symm; rw [decide_eq_false_iff_not]; omega))

set_option maxHeartbeats 8000000 in
set_option maxRecDepth 100000 in
theorem rep_main (root : Bool) (par : ByteArray) (B : Nat → Bool) (b off cap n : Nat) (w : World) (hs : par.size ≤ 65536) (hn : n ≤ 65536) (hn0 : 0 < n) (hb : b < w.heap.size) (hc : ∀ j, j < n → w.cell? ⟨b, off + j, none⟩ = some (.bool (B j))) :
    Calls Try.prog 3 #[.bool root, .string par, .slice (some ⟨b, off, none⟩) n cap] w fun e w' => e = .returned (.bool true) ∧ Below w.heap.size w w' := by
  have hd : decide (par.size + n ≤ 1048576) = true := by rw [decide_eq_true_eq]; omega
  have hnz : ((n : Int) == 0) = false := beq_eq_false_iff_ne.2 (by omega)
  have HC : Hid (∀ j, j < n → w.cell? ⟨b, off + j, none⟩ = some (.bool (B j))) := hc
  clear hc
  go_enter Try.func3, Try.ntmps3
  go_wp2_with fail
  refine (bytes6 root par _ n cap w (by omega) (by omega)).mono ?_
  rintro e w0 ⟨rfl, hw⟩
  replace hw := hw.symm
  subst hw
  rw [hd]
  clear hd
  go_wp2_with fail
  refine (new7 root true par n false w).mono ?_
  rintro e w1 ⟨Z, D, V, R, rfl, hZ, hD, hV, hR, X, HB⟩
  go_wp2_with fail
  go_loopw [9, 10] (fun sw i wr => ∃ k : Nat, k ≤ n ∧ i = .int .i64 k ∧ sw = .bool (anyTo B k) ∧ Below w.heap.size w wr ∧ (k < n → ∃ p : Int, Hid (p = (n : Int) - k) ∧ Dif wr Z D V R root true par p (anyTo B k) 0 ByteArray.empty false false 0 false)) (fun _ i _ => n - (intOf i).toNat)
  case atStart => exact ⟨0, Nat.zero_le _, rfl, rfl, HB, fun _ => ⟨n, by simp [Hid], X⟩⟩
  case round =>
    clear X HB
    obtain ⟨k, hk, rfl, rfl, HB, hX⟩ := hrel
    by_cases hlt : k < n
    · obtain ⟨p, HP, H⟩ := hX hlt
      clear hX
      have hcell : wr.cell? ⟨b, off + k, none⟩ = some (.bool (B k)) := (HB.cell (p := ⟨b, off + k, none⟩) hb).trans (HC.out k hlt)
      obtain ⟨s, hsw⟩ : ∃ s, s = anyTo B k := ⟨_, rfl⟩
      rw [← hsw] at H ⊢
      have HSW : Hid (s = anyTo B k) := hsw
      clear hsw
      have hltz : (k : Int) < (n : Int) := by omega
      cases hB : B k with
      | true =>
        rw [hB] at hcell
        have HA : Hid (anyTo B (k + 1) = true) := anyTo_yes B k hB
        clear hB
        by_cases hlast : k + 1 < n
        · have hlz : (k : Int) < (n : Int) - 1 := by omega
          have hp1 : 1 < p := by have := HP.out; omega
          have hpq : p ≤ 9223372036854775807 := by have := HP.out; omega
          have hcmp : (p - 1 != (n : Int) - 1 - (k : Int)) = false := by have := HP.out; simp; omega
          go_wp2_with fail
          refine (dbt8_more Z D V R true par s 0 ByteArray.empty false false 0 false wr root p hp1 hpq H).mono ?_
          rintro e w3 ⟨rfl, X3, m3⟩
          replace HB := HB.trans (m3.below hD hR)
          clear m3 H
          go_wp2_with fail
          refine (fields10b Z D V R root true par (p - 1) true 0 ByteArray.empty false false 0 false X3).mono ?_
          rintro e w4 ⟨rfl, bel⟩
          replace X3 := X3.below bel
          replace HB := HB.trans (bel.mono HB.size)
          clear bel
          go_wp2_with fail
          refine (reports11b Z D V R root true par (p - 1) true 0 ByteArray.empty false false 0 false X3).mono ?_
          rintro e w5 ⟨rfl, bel⟩
          replace X3 := X3.below bel
          replace HB := HB.trans (bel.mono HB.size)
          clear bel
          go_wp2_with fail
          go_roundw
          case rel => exact ⟨k + 1, by omega, by go_num, by rw [HA.out], HB, fun _ => ⟨p - 1, by have := HP.out; simp [Hid]; omega, by rw [HA.out]; exact X3⟩⟩
          case measure => simp [intOf]; omega
        · have hlz : ¬ (k : Int) < (n : Int) - 1 := by omega
          obtain rfl : p = 1 := by have := HP.out; omega
          cases root
          · skip
            go_wp2_with fail
            refine (dbt8_last Z D V R true par s 0 ByteArray.empty false false 0 false wr (by omega) (by omega) H).mono ?_
            rintro e w3 ⟨rfl, X3, m3⟩
            replace HB := HB.trans (m3.below hD hR)
            clear m3 H
            go_wp2_with fail
            refine (fields10b Z D V R false false par 0 false (0 + 1) par true true 0 false X3).mono ?_
            rintro e w4 ⟨rfl, bel⟩
            replace X3 := X3.below bel
            replace HB := HB.trans (bel.mono HB.size)
            clear bel
            go_wp2_with fail
            refine (reports11b Z D V R false false par 0 false (0 + 1) par true true 0 false X3).mono ?_
            rintro e w5 ⟨rfl, bel⟩
            replace X3 := X3.below bel
            replace HB := HB.trans (bel.mono HB.size)
            clear bel
            go_wp2_with fail
            go_roundw
            case rel => exact ⟨k + 1, by omega, by go_num, by rw [HA.out], HB, fun h => absurd h (by omega)⟩
            case measure => simp [intOf]; omega
          · skip
            go_wp2_with fail
            refine (dbt8_root Z D V R true par s 0 ByteArray.empty false false 0 false wr (by omega) (by omega) H).mono ?_
            rintro e w3 ⟨rfl, X3, m3⟩
            replace HB := HB.trans (m3.below hD hR)
            clear m3 H
            go_wp2_with fail
            refine (fields10b Z D V R false false par 0 false 0 ByteArray.empty false false (0 + 1) true X3).mono ?_
            rintro e w4 ⟨rfl, bel⟩
            replace X3 := X3.below bel
            replace HB := HB.trans (bel.mono HB.size)
            clear bel
            go_wp2_with fail
            refine (reports11b Z D V R false false par 0 false 0 ByteArray.empty false false (0 + 1) true X3).mono ?_
            rintro e w5 ⟨rfl, bel⟩
            replace X3 := X3.below bel
            replace HB := HB.trans (bel.mono HB.size)
            clear bel
            go_wp2_with fail
            go_roundw
            case rel => exact ⟨k + 1, by omega, by go_num, by rw [HA.out], HB, fun h => absurd h (by omega)⟩
            case measure => simp [intOf]; omega
      | false =>
        rw [hB] at hcell
        have HA : Hid (anyTo B (k + 1) = s) := anyTo_no B k hB HSW.out
        clear hB
        by_cases hlast : k + 1 < n
        · have hlz : (k : Int) < (n : Int) - 1 := by omega
          have hp1 : 1 < p := by have := HP.out; omega
          have hpq : p ≤ 9223372036854775807 := by have := HP.out; omega
          have hcmp : (p - 1 != (n : Int) - 1 - (k : Int)) = false := by have := HP.out; simp; omega
          go_wp2_with fail
          refine (ack9_more Z D V R true par s 0 ByteArray.empty false false 0 false wr root p hp1 hpq H).mono ?_
          rintro e w3 ⟨rfl, X3, m3⟩
          replace HB := HB.trans (m3.below hD hR)
          clear m3 H
          go_wp2_with fail
          refine (fields10b Z D V R root true par (p - 1) s 0 ByteArray.empty false false 0 false X3).mono ?_
          rintro e w4 ⟨rfl, bel⟩
          replace X3 := X3.below bel
          replace HB := HB.trans (bel.mono HB.size)
          clear bel
          go_wp2_with fail
          refine (reports11b Z D V R root true par (p - 1) s 0 ByteArray.empty false false 0 false X3).mono ?_
          rintro e w5 ⟨rfl, bel⟩
          replace X3 := X3.below bel
          replace HB := HB.trans (bel.mono HB.size)
          clear bel
          go_wp2_with fail
          go_roundw
          case rel => exact ⟨k + 1, by omega, by go_num, by rw [HA.out], HB, fun _ => ⟨p - 1, by have := HP.out; simp [Hid]; omega, by rw [HA.out]; exact X3⟩⟩
          case measure => simp [intOf]; omega
        · have hlz : ¬ (k : Int) < (n : Int) - 1 := by omega
          obtain rfl : p = 1 := by have := HP.out; omega
          cases root
          · skip
            go_wp2_with fail
            refine (ack9_last Z D V R true par s 0 ByteArray.empty false false 0 false wr (by omega) (by omega) H).mono ?_
            rintro e w3 ⟨rfl, X3, m3⟩
            replace HB := HB.trans (m3.below hD hR)
            clear m3 H
            go_wp2_with fail
            refine (fields10b Z D V R false false par 0 false (0 + 1) par s true 0 false X3).mono ?_
            rintro e w4 ⟨rfl, bel⟩
            replace X3 := X3.below bel
            replace HB := HB.trans (bel.mono HB.size)
            clear bel
            go_wp2_with fail
            refine (reports11b Z D V R false false par 0 false (0 + 1) par s true 0 false X3).mono ?_
            rintro e w5 ⟨rfl, bel⟩
            replace X3 := X3.below bel
            replace HB := HB.trans (bel.mono HB.size)
            clear bel
            go_wp2_with fail
            go_roundw
            case rel => exact ⟨k + 1, by omega, by go_num, by rw [HA.out], HB, fun h => absurd h (by omega)⟩
            case measure => simp [intOf]; omega
          · skip
            go_wp2_with fail
            refine (ack9_root Z D V R true par s 0 ByteArray.empty false false 0 false wr (by omega) (by omega) H).mono ?_
            rintro e w3 ⟨rfl, X3, m3⟩
            replace HB := HB.trans (m3.below hD hR)
            clear m3 H
            go_wp2_with fail
            refine (fields10b Z D V R false false par 0 false 0 ByteArray.empty false false (0 + 1) s X3).mono ?_
            rintro e w4 ⟨rfl, bel⟩
            replace X3 := X3.below bel
            replace HB := HB.trans (bel.mono HB.size)
            clear bel
            go_wp2_with fail
            refine (reports11b Z D V R false false par 0 false 0 ByteArray.empty false false (0 + 1) s X3).mono ?_
            rintro e w5 ⟨rfl, bel⟩
            replace X3 := X3.below bel
            replace HB := HB.trans (bel.mono HB.size)
            clear bel
            go_wp2_with fail
            go_roundw
            case rel => exact ⟨k + 1, by omega, by go_num, by rw [HA.out], HB, fun h => absurd h (by omega)⟩
            case measure => simp [intOf]; omega
    · have hltz : ¬ (k : Int) < (n : Int) := by omega
      clear hX
      go_wp2
      go_ret
      exact ⟨rfl, HB⟩

end Go.Proofs.Qxb6614550a
