import Derived.Test.Qxb6614197aBase
namespace Go.Proofs.Qxb6614197a
open Go.RowKit

theorem set_next {k : Nat} {K : IntKind} {L : List Value} {zs : List Int} {u : Int} (hL : Hid (∀ j, j < k → L[j]? = some (.int K (zs.getD j 0)))) (hu : u = zs.getD k 0) (hk : k < L.length) :
    Hid (∀ j, j < k + 1 → (L.set k (.int K u))[j]? = some (.int K (zs.getD j 0))) := by
  intro j hj
  rw [List.getElem?_set]
  by_cases e : k = j
  · subst e; rw [if_pos rfl, if_pos hk, hu]
  · rw [if_neg e]; exact hL.out j (by omega)

set_option maxHeartbeats 800000 in
theorem clone7_row (b off cap n : Nat) (zs : List Int) (w : World) (hn : n = zs.length) (hpos : 0 < n) (hbig : n ≤ 1048576) (hb : b < w.heap.size)
    (hc : ∀ j, j < n → w.cell? ⟨b, off + j, none⟩ = some (.int .i64 (zs.getD j 0))) :
    Calls Try.prog 7 #[.slice (some ⟨b, off, none⟩) n cap] w fun e w' => ∃ v, e = .returned v ∧ SlIs .i64 w' v false zs ∧ Below w.heap.size w w' := by
  obtain ⟨i0, hi, hz0, hz1, hz2⟩ := info_parts Try.info3
  have q23 : ∀ (w : World) (a : Option Addr) (n c n' c' : Nat), (binOp .eql 23 (.slice a n c) (.slice none n' c')).run Try.prog w = .ok (.bool a.isNone) w := fun w a n c n' c' => Lib.run_eql_slice_nil w _ _ a n c n' c' Try.underlying23
  have HN : Hid (n = zs.length) := hn
  clear hn
  have hb2 : i0.bytes * n ≤ 281474976710656 := by rw [hz2]; omega
  have HC : Hid (∀ j, j < n → w.cell? ⟨b, off + j, none⟩ = some (.int .i64 (zs.getD j 0))) := hc
  clear hc
  go_enter Try.func7, Try.ntmps7
  go_wp2_with (at_make; refine wpList_make_full _ rfl _ _ 23 rfl w.heap.size 3 i0 (.int .i64 0) 1 Try.underlying23 hi hz0 hz1 _ _ _ _ n rfl rfl rfl rfl hb2 (by unfold maxLen; omega) (Nat.le_refl _) ?_; intro w1 hown hgrow)
  have hB1 : Below w.heap.size w w1 := (Below.refl _ _).grown hgrow (Nat.le_refl _) (fun k hk => by cases hk)
  obtain ⟨L0, hown0⟩ : ∃ L, w1.ownsRow w.heap.size 3 1 (.slice (some ⟨w.heap.size, 0, none⟩) n n) n L := ⟨_, hown⟩
  clear hown hgrow
  go_loopw [4] (fun i wr => ∃ (k : Nat) (L : List Value), k ≤ n ∧ i = .int .i64 k ∧ wr.ownsRow w.heap.size 3 1 (.slice (some ⟨w.heap.size, 0, none⟩) n n) n L ∧ Below w.heap.size w wr ∧ Hid (∀ j, j < k → L[j]? = some (.int .i64 (zs.getD j 0)))) (fun i _ => n - (intOf i).toNat)
  case atStart => exact ⟨0, L0, Nat.zero_le _, rfl, hown0, hB1, fun j hj => absurd hj (Nat.not_lt_zero _)⟩
  case round =>
    obtain ⟨k, L, hk, rfl, hown, hB, hL⟩ := hrel
    by_cases hlt : k < n
    · have hcell : wr.cell? ⟨b, off + k, none⟩ = some (.int .i64 (zs.getD k 0)) := (hB.cell (p := ⟨b, off + k, none⟩) hb).trans (HC.out k hlt)
      obtain ⟨u, hu⟩ : ∃ u, u = zs.getD k 0 := ⟨_, rfl⟩
      rw [← hu] at hcell
      have HU : Hid (u = zs.getD k 0) := hu
      clear hu
      have hfz := hown.frozenAt k
      have hlen : L.length = n := by have := hown.1; omega
      obtain ⟨u0, hcell2⟩ : ∃ u0, wr.cell? ⟨w.heap.size, k, none⟩ = some u0 := ⟨_, (hown.cellAt k (by omega)).trans (List.getElem?_eq_getElem (by omega))⟩
      have HST : Hid ((wr.setCell ⟨w.heap.size, k, none⟩ (.int .i64 u)).ownsRow w.heap.size 3 1 (.slice (some ⟨w.heap.size, 0, none⟩) n n) n (L.set k (.int .i64 u))) := (hown.stored k (.int .i64 u)).1
      have HB : Hid (Below w.heap.size w (wr.setCell ⟨w.heap.size, k, none⟩ (.int .i64 u))) := hB.setCell (Nat.le_refl _) _
      have HL := set_next hL HU.out (by omega)
      have hk1 : k + 1 ≤ n := hlt
      clear hown hlen
      go_wp2
      go_roundw
      case rel => exact ⟨k + 1, L.set k (.int .i64 u), hk1, by go_num, HST.out, HB.out, HL⟩
      case measure => simp [intOf]; omega
    · have hkn : k = n := by omega
      have HS : Hid (SlIs .i64 wr (.slice (some ⟨w.heap.size, 0, none⟩) n n) false zs) := SlIs.of_own hown HN.out (fun j hj => hL.out j (by omega))
      have HB : Hid (Below w.heap.size w wr) := hB
      clear hB hown hL hkn
      go_wp2
      go_ret
      exact ⟨_, rfl, HS.out, HB.out⟩

set_option maxHeartbeats 800000 in
theorem clone7_empty (a : Option Addr) (cap : Nat) (w : World) :
    Calls Try.prog 7 #[.slice a 0 cap] w fun e w' => ∃ v, e = .returned v ∧ SlIs .i64 w' v a.isNone [] ∧ Below w.heap.size w w' := by
  obtain ⟨i0, hi, hz0, hz1, hz2⟩ := info_parts Try.info3
  have q23 : ∀ (w : World) (a : Option Addr) (n c n' c' : Nat), (binOp .eql 23 (.slice a n c) (.slice none n' c')).run Try.prog w = .ok (.bool a.isNone) w := fun w a n c n' c' => Lib.run_eql_slice_nil w _ _ a n c n' c' Try.underlying23
  cases a with
  | none =>
    go_enter Try.func7, Try.ntmps7
    go_wp2
    go_ret
    exact ⟨_, rfl, .inl ⟨rfl, _, _, rfl, rfl⟩, Below.refl _ _⟩
  | some x =>
    go_enter Try.func7, Try.ntmps7
    go_wp2_with (at_make; refine wpList_make_full _ rfl _ _ 23 rfl w.heap.size 3 i0 (.int .i64 0) 1 Try.underlying23 hi hz0 hz1 _ _ _ _ 0 rfl rfl rfl rfl (by omega) (by unfold maxLen; omega) (Nat.le_refl _) ?_; intro w1 hown hgrow)
    have hB1 : Below w.heap.size w w1 := (Below.refl _ _).grown hgrow (Nat.le_refl _) (fun k hk => by cases hk)
    clear hown hgrow
    refine wp_loop_rounds 1 ?_
    rw [rounds_succ]
    go_wp2
    go_ret
    exact ⟨_, rfl, .inl ⟨rfl, _, _, rfl, rfl⟩, hB1⟩

/-- THE CONTRACT OF FUNCTION 7: a fresh copy, nil where the argument is nil. -/
theorem clone7 (v : Value) (nl : Bool) (zs : List Int) (w : World) (h : SlIs .i64 w v nl zs) (hbig : zs.length ≤ 1048576) :
    Calls Try.prog 7 #[v] w fun e w' => ∃ v', e = .returned v' ∧ SlIs .i64 w' v' nl zs ∧ Below w.heap.size w w' := by
  rcases h with ⟨rfl, a, cap, rfl, rfl⟩ | ⟨hz, rfl, b, off, cap, rfl, hb, hc⟩
  · exact clone7_empty a cap w
  · exact clone7_row b off cap zs.length zs w rfl (List.length_pos_iff.2 hz) hbig hb hc

set_option maxHeartbeats 800000 in
theorem clone6_row (b off cap n : Nat) (zs : List Int) (w : World) (hn : n = zs.length) (hpos : 0 < n) (hbig : n ≤ 1048576) (hb : b < w.heap.size)
    (hc : ∀ j, j < n → w.cell? ⟨b, off + j, none⟩ = some (.int .i32 (zs.getD j 0))) :
    Calls Try.prog 6 #[.slice (some ⟨b, off, none⟩) n cap] w fun e w' => ∃ v, e = .returned v ∧ SlIs .i32 w' v false zs ∧ Below w.heap.size w w' := by
  obtain ⟨i0, hi, hz0, hz1, hz2⟩ := info_parts Try.info21
  have q22 : ∀ (w : World) (a : Option Addr) (n c n' c' : Nat), (binOp .eql 22 (.slice a n c) (.slice none n' c')).run Try.prog w = .ok (.bool a.isNone) w := fun w a n c n' c' => Lib.run_eql_slice_nil w _ _ a n c n' c' Try.underlying22
  have HN : Hid (n = zs.length) := hn
  clear hn
  have hb2 : i0.bytes * n ≤ 281474976710656 := by rw [hz2]; omega
  have HC : Hid (∀ j, j < n → w.cell? ⟨b, off + j, none⟩ = some (.int .i32 (zs.getD j 0))) := hc
  clear hc
  go_enter Try.func6, Try.ntmps6
  go_wp2_with (at_make; refine wpList_make_full _ rfl _ _ 22 rfl w.heap.size 21 i0 (.int .i32 0) 1 Try.underlying22 hi hz0 hz1 _ _ _ _ n rfl rfl rfl rfl hb2 (by unfold maxLen; omega) (Nat.le_refl _) ?_; intro w1 hown hgrow)
  have hB1 : Below w.heap.size w w1 := (Below.refl _ _).grown hgrow (Nat.le_refl _) (fun k hk => by cases hk)
  obtain ⟨L0, hown0⟩ : ∃ L, w1.ownsRow w.heap.size 21 1 (.slice (some ⟨w.heap.size, 0, none⟩) n n) n L := ⟨_, hown⟩
  clear hown hgrow
  go_loopw [4] (fun i wr => ∃ (k : Nat) (L : List Value), k ≤ n ∧ i = .int .i64 k ∧ wr.ownsRow w.heap.size 21 1 (.slice (some ⟨w.heap.size, 0, none⟩) n n) n L ∧ Below w.heap.size w wr ∧ Hid (∀ j, j < k → L[j]? = some (.int .i32 (zs.getD j 0)))) (fun i _ => n - (intOf i).toNat)
  case atStart => exact ⟨0, L0, Nat.zero_le _, rfl, hown0, hB1, fun j hj => absurd hj (Nat.not_lt_zero _)⟩
  case round =>
    obtain ⟨k, L, hk, rfl, hown, hB, hL⟩ := hrel
    by_cases hlt : k < n
    · have hcell : wr.cell? ⟨b, off + k, none⟩ = some (.int .i32 (zs.getD k 0)) := (hB.cell (p := ⟨b, off + k, none⟩) hb).trans (HC.out k hlt)
      obtain ⟨u, hu⟩ : ∃ u, u = zs.getD k 0 := ⟨_, rfl⟩
      rw [← hu] at hcell
      have HU : Hid (u = zs.getD k 0) := hu
      clear hu
      have hfz := hown.frozenAt k
      have hlen : L.length = n := by have := hown.1; omega
      obtain ⟨u0, hcell2⟩ : ∃ u0, wr.cell? ⟨w.heap.size, k, none⟩ = some u0 := ⟨_, (hown.cellAt k (by omega)).trans (List.getElem?_eq_getElem (by omega))⟩
      have HST : Hid ((wr.setCell ⟨w.heap.size, k, none⟩ (.int .i32 u)).ownsRow w.heap.size 21 1 (.slice (some ⟨w.heap.size, 0, none⟩) n n) n (L.set k (.int .i32 u))) := (hown.stored k (.int .i32 u)).1
      have HB : Hid (Below w.heap.size w (wr.setCell ⟨w.heap.size, k, none⟩ (.int .i32 u))) := hB.setCell (Nat.le_refl _) _
      have HL := set_next hL HU.out (by omega)
      have hk1 : k + 1 ≤ n := hlt
      clear hown hlen
      go_wp2
      go_roundw
      case rel => exact ⟨k + 1, L.set k (.int .i32 u), hk1, by go_num, HST.out, HB.out, HL⟩
      case measure => simp [intOf]; omega
    · have hkn : k = n := by omega
      have HS : Hid (SlIs .i32 wr (.slice (some ⟨w.heap.size, 0, none⟩) n n) false zs) := SlIs.of_own hown HN.out (fun j hj => hL.out j (by omega))
      have HB : Hid (Below w.heap.size w wr) := hB
      clear hB hown hL hkn
      go_wp2
      go_ret
      exact ⟨_, rfl, HS.out, HB.out⟩

set_option maxHeartbeats 800000 in
theorem clone6_empty (a : Option Addr) (cap : Nat) (w : World) :
    Calls Try.prog 6 #[.slice a 0 cap] w fun e w' => ∃ v, e = .returned v ∧ SlIs .i32 w' v a.isNone [] ∧ Below w.heap.size w w' := by
  obtain ⟨i0, hi, hz0, hz1, hz2⟩ := info_parts Try.info21
  have q22 : ∀ (w : World) (a : Option Addr) (n c n' c' : Nat), (binOp .eql 22 (.slice a n c) (.slice none n' c')).run Try.prog w = .ok (.bool a.isNone) w := fun w a n c n' c' => Lib.run_eql_slice_nil w _ _ a n c n' c' Try.underlying22
  cases a with
  | none =>
    go_enter Try.func6, Try.ntmps6
    go_wp2
    go_ret
    exact ⟨_, rfl, .inl ⟨rfl, _, _, rfl, rfl⟩, Below.refl _ _⟩
  | some x =>
    go_enter Try.func6, Try.ntmps6
    go_wp2_with (at_make; refine wpList_make_full _ rfl _ _ 22 rfl w.heap.size 21 i0 (.int .i32 0) 1 Try.underlying22 hi hz0 hz1 _ _ _ _ 0 rfl rfl rfl rfl (by omega) (by unfold maxLen; omega) (Nat.le_refl _) ?_; intro w1 hown hgrow)
    have hB1 : Below w.heap.size w w1 := (Below.refl _ _).grown hgrow (Nat.le_refl _) (fun k hk => by cases hk)
    clear hown hgrow
    refine wp_loop_rounds 1 ?_
    rw [rounds_succ]
    go_wp2
    go_ret
    exact ⟨_, rfl, .inl ⟨rfl, _, _, rfl, rfl⟩, hB1⟩

/-- THE CONTRACT OF FUNCTION 6: a fresh copy, nil where the argument is nil. -/
theorem clone6 (v : Value) (nl : Bool) (zs : List Int) (w : World) (h : SlIs .i32 w v nl zs) (hbig : zs.length ≤ 1048576) :
    Calls Try.prog 6 #[v] w fun e w' => ∃ v', e = .returned v' ∧ SlIs .i32 w' v' nl zs ∧ Below w.heap.size w w' := by
  rcases h with ⟨rfl, a, cap, rfl, rfl⟩ | ⟨hz, rfl, b, off, cap, rfl, hb, hc⟩
  · exact clone6_empty a cap w
  · exact clone6_row b off cap zs.length zs w rfl (List.length_pos_iff.2 hz) hbig hb hc

end Go.Proofs.Qxb6614197a
