import Derived.Test.Qxb6614197aOrd
namespace Go.Proofs.Qxb6614197a
open Go.RowKit

set_option maxHeartbeats 800000 in
theorem fields10_row (b off cap n B : Nat) (zs : List Int) (a1 a2 a3 : Option Addr) (n1 c1 n2 c2 n3 c3 : Nat) (dead : Bool) (w : World) (hn : n = zs.length) (hpos : 0 < n) (hbig : n ≤ 1048576) (hb : b < w.heap.size)
    (hc : ∀ j, j < n → w.cell? ⟨b, off + j, none⟩ = some (.int .i32 (zs.getD j 0))) (hB : w.heap[B]? = some (.cells #[.slice (some ⟨b, off, none⟩) n cap, .slice a1 n1 c1, .slice a2 n2 c2, .slice a3 n3 c3, .bool dead] 41 (0, 0))) :
    Calls Try.prog 10 #[.pointer (some ⟨B, 0, none⟩)] w fun e w' => ∃ v, e = .returned (.tuple #[v, .slice a1 n1 c1, .slice a2 n2 c2, .slice a3 n3 c3, .bool dead]) ∧ SlIs .i32 w' v false zs ∧ Below w.heap.size w w' := by
  obtain ⟨i0, hi, hz0, hz1, hz2⟩ := info_parts Try.info21
  have q38 : ∀ (w : World) (a : Option Addr) (n c n' c' : Nat), (binOp .neq 38 (.slice a n c) (.slice none n' c')).run Try.prog w = .ok (.bool (!a.isNone)) w := fun w a n c n' c' => run_neq_slice_nil_any w _ _ a n c n' c' Try.underlying38
  have HN : Hid (n = zs.length) := hn
  clear hn
  have hb2 : i0.bytes * n ≤ 281474976710656 := by rw [hz2]; omega
  have HC : Hid (∀ j, j < n → w.cell? ⟨b, off + j, none⟩ = some (.int .i32 (zs.getD j 0))) := hc
  clear hc
  have hBs : B < w.heap.size := (Array.getElem?_eq_some_iff.1 hB).1
  have g0 : w.cell? ⟨B, 0, none⟩ = some (.slice (some ⟨b, off, none⟩) n cap) := by rw [cell_of_row w B 0 _ _ _ hB]; rfl
  have g1 : w.cell? ⟨B, 1, none⟩ = some (.slice a1 n1 c1) := by rw [cell_of_row w B 1 _ _ _ hB]; rfl
  have g2 : w.cell? ⟨B, 2, none⟩ = some (.slice a2 n2 c2) := by rw [cell_of_row w B 2 _ _ _ hB]; rfl
  have g3 : w.cell? ⟨B, 3, none⟩ = some (.slice a3 n3 c3) := by rw [cell_of_row w B 3 _ _ _ hB]; rfl
  have g4 : w.cell? ⟨B, 4, none⟩ = some (.bool dead) := by rw [cell_of_row w B 4 _ _ _ hB]; rfl
  clear hB
  go_enter Try.func10, Try.ntmps10
  go_wp2_with (at_make; refine wpList_make_full _ rfl _ _ 22 rfl w.heap.size 21 i0 (.int .i32 0) 1 Try.underlying22 hi hz0 hz1 _ _ _ _ n rfl rfl rfl rfl hb2 (by unfold maxLen; omega) (Nat.le_refl _) ?_; intro w1 hown hgrow)
  have hB1 : Below w.heap.size w w1 := (Below.refl _ _).grown hgrow (Nat.le_refl _) (fun k hk => by cases hk)
  obtain ⟨L0, hown0⟩ : ∃ L, w1.ownsRow w.heap.size 21 1 (.slice (some ⟨w.heap.size, 0, none⟩) n n) n L := ⟨_, hown⟩
  clear hown hgrow
  go_loopw [8] (fun i wr => ∃ (k : Nat) (L : List Value), k ≤ n ∧ i = .int .i64 k ∧ wr.ownsRow w.heap.size 21 1 (.slice (some ⟨w.heap.size, 0, none⟩) n n) n L ∧ Below w.heap.size w wr ∧ Hid (∀ j, j < k → L[j]? = some (.int .i32 (zs.getD j 0)))) (fun i _ => n - (intOf i).toNat)
  case atStart => exact ⟨0, L0, Nat.zero_le _, rfl, hown0, hB1, fun j hj => absurd hj (Nat.not_lt_zero _)⟩
  case round =>
    obtain ⟨k, L, hk, rfl, hown, hB, hL⟩ := hrel
    have r0 := (hB.cell (p := ⟨B, 0, none⟩) hBs).trans g0
    by_cases hlt : k < n
    · have hcell : wr.cell? ⟨b, off + k, none⟩ = some (.int .i32 (zs.getD k 0)) := (hB.cell (p := ⟨b, off + k, none⟩) hb).trans (HC.out k hlt)
      obtain ⟨u, hu⟩ : ∃ u, u = zs.getD k 0 := ⟨_, rfl⟩
      rw [← hu] at hcell
      have HU : Hid (u = zs.getD k 0) := hu
      clear hu
      have hfz := hown.frozenAt k
      have hlen : L.length = n := by have := hown.1; omega
      obtain ⟨u0, hcell2⟩ : ∃ u0, wr.cell? ⟨w.heap.size, k, none⟩ = some u0 := ⟨_, (hown.cellAt k (by omega)).trans (List.getElem?_eq_getElem (by omega))⟩
      have HST : Hid ((wr.setCell ⟨w.heap.size, k, none⟩ (.int .i32 u)).ownsRow w.heap.size 21 1 (.slice (some ⟨w.heap.size, 0, none⟩) n n) n (L.set k (.int .i32 u))) := (hown.stored k (.int .i32 u)).1
      have HB : Hid (Below w.heap.size w (wr.setCell ⟨w.heap.size, k, none⟩ (.int .i32 u))) := hB.setCell (Nat.le_refl _) _
      have HL := set_next hL HU.out (by omega)
      have hk1 : k + 1 ≤ n := hlt
      clear hown hlen
      go_wp2
      go_roundw
      case rel => exact ⟨k + 1, L.set k (.int .i32 u), hk1, by go_num, HST.out, HB.out, HL⟩
      case measure => simp [intOf]; omega
    · have hkn : k = n := by omega
      have HS : Hid (SlIs .i32 wr (.slice (some ⟨w.heap.size, 0, none⟩) n n) false zs) := SlIs.of_own hown HN.out (fun j hj => hL.out j (by omega))
      have HB : Hid (Below w.heap.size w wr) := hB
      have r1 := (hB.cell (p := ⟨B, 1, none⟩) hBs).trans g1
      have r2 := (hB.cell (p := ⟨B, 2, none⟩) hBs).trans g2
      have r3 := (hB.cell (p := ⟨B, 3, none⟩) hBs).trans g3
      have r4 := (hB.cell (p := ⟨B, 4, none⟩) hBs).trans g4
      clear hB hown hL hkn
      go_wp2
      go_quiet (fail)
      go_wp2
      refine bodyPost_ret (v := .tuple #[.slice (some ⟨w.heap.size, 0, none⟩) n n, .slice a1 n1 c1, .slice a2 n2 c2, .slice a3 n3 c3, .bool dead]) (by simp [results, Try.results10, go_sem]) rfl ⟨_, rfl, HS.out.below (below_drewN (Below.refl _ _) _), below_drewN HB.out _⟩

set_option maxHeartbeats 800000 in
theorem fields10_empty (a : Option Addr) (cap B : Nat) (a1 a2 a3 : Option Addr) (n1 c1 n2 c2 n3 c3 : Nat) (dead : Bool) (w : World)
    (hB : w.heap[B]? = some (.cells #[.slice a 0 cap, .slice a1 n1 c1, .slice a2 n2 c2, .slice a3 n3 c3, .bool dead] 41 (0, 0))) :
    Calls Try.prog 10 #[.pointer (some ⟨B, 0, none⟩)] w fun e w' => ∃ v, e = .returned (.tuple #[v, .slice a1 n1 c1, .slice a2 n2 c2, .slice a3 n3 c3, .bool dead]) ∧ SlIs .i32 w' v a.isNone [] ∧ Below w.heap.size w w' := by
  obtain ⟨i0, hi, hz0, hz1, hz2⟩ := info_parts Try.info21
  have q38 : ∀ (w : World) (a : Option Addr) (n c n' c' : Nat), (binOp .neq 38 (.slice a n c) (.slice none n' c')).run Try.prog w = .ok (.bool (!a.isNone)) w := fun w a n c n' c' => run_neq_slice_nil_any w _ _ a n c n' c' Try.underlying38
  have hBs : B < w.heap.size := (Array.getElem?_eq_some_iff.1 hB).1
  have g0 : w.cell? ⟨B, 0, none⟩ = some (.slice a 0 cap) := by rw [cell_of_row w B 0 _ _ _ hB]; rfl
  have g1 : w.cell? ⟨B, 1, none⟩ = some (.slice a1 n1 c1) := by rw [cell_of_row w B 1 _ _ _ hB]; rfl
  have g2 : w.cell? ⟨B, 2, none⟩ = some (.slice a2 n2 c2) := by rw [cell_of_row w B 2 _ _ _ hB]; rfl
  have g3 : w.cell? ⟨B, 3, none⟩ = some (.slice a3 n3 c3) := by rw [cell_of_row w B 3 _ _ _ hB]; rfl
  have g4 : w.cell? ⟨B, 4, none⟩ = some (.bool dead) := by rw [cell_of_row w B 4 _ _ _ hB]; rfl
  clear hB
  cases a with
  | none =>
    go_enter Try.func10, Try.ntmps10
    go_wp2
    go_quiet (fail)
    go_wp2
    refine bodyPost_ret (v := .tuple #[.slice none 0 0, .slice a1 n1 c1, .slice a2 n2 c2, .slice a3 n3 c3, .bool dead]) (by simp [results, Try.results10, go_sem]) rfl ⟨_, rfl, .inl ⟨rfl, _, _, rfl, rfl⟩, below_drewN (Below.refl _ _) _⟩
  | some x =>
    go_enter Try.func10, Try.ntmps10
    go_wp2_with (at_make; refine wpList_make_full _ rfl _ _ 22 rfl w.heap.size 21 i0 (.int .i32 0) 1 Try.underlying22 hi hz0 hz1 _ _ _ _ 0 rfl rfl rfl rfl (by omega) (by unfold maxLen; omega) (Nat.le_refl _) ?_; intro w1 hown hgrow)
    have hB1 : Below w.heap.size w w1 := (Below.refl _ _).grown hgrow (Nat.le_refl _) (fun k hk => by cases hk)
    have r0 := (hB1.cell (p := ⟨B, 0, none⟩) hBs).trans g0
    have r1 := (hB1.cell (p := ⟨B, 1, none⟩) hBs).trans g1
    have r2 := (hB1.cell (p := ⟨B, 2, none⟩) hBs).trans g2
    have r3 := (hB1.cell (p := ⟨B, 3, none⟩) hBs).trans g3
    have r4 := (hB1.cell (p := ⟨B, 4, none⟩) hBs).trans g4
    clear hown hgrow
    refine wp_loop_rounds 1 ?_
    rw [rounds_succ]
    go_wp2
    go_quiet (fail)
    go_wp2
    refine bodyPost_ret (v := .tuple #[.slice (some ⟨w.heap.size, 0, none⟩) 0 0, .slice a1 n1 c1, .slice a2 n2 c2, .slice a3 n3 c3, .bool dead]) (by simp [results, Try.results10, go_sem]) rfl ⟨_, rfl, .inl ⟨rfl, _, _, rfl, rfl⟩, below_drewN hB1 _⟩

/-- THE CONTRACT OF ZZOrderFields. -/
theorem fields10 (B : Nat) (nst ntk nop dead : Bool) (st inl tk op : List Int) (w : World) (h : OrdIs w B nst st inl ntk tk nop op dead) (hbig : st.length ≤ 1048576) :
    Calls Try.prog 10 #[.pointer (some ⟨B, 0, none⟩)] w fun e w' => ∃ v v1 v2 v3 nin, e = .returned (.tuple #[v, v1, v2, v3, .bool dead]) ∧ SlIs .i32 w' v nst st ∧ SlIs .i64 w' v1 nin inl ∧ SlIs .i64 w' v2 ntk tk ∧ SlIs .i64 w' v3 nop op ∧ Below w.heap.size w w' := by
  obtain ⟨v, v1, v2, v3, nin, hB, h, h1, h2, h3⟩ := h
  obtain ⟨a1, n1, c1, e1, _⟩ := h1.form
  obtain ⟨a2, n2, c2, e2, _⟩ := h2.form
  obtain ⟨a3, n3, c3, e3, _⟩ := h3.form
  subst e1 e2 e3
  rcases h with ⟨rfl, a, cap, rfl, rfl⟩ | ⟨hz, rfl, b, off, cap, rfl, hb, hc⟩
  · refine (fields10_empty a cap B a1 a2 a3 n1 c1 n2 c2 n3 c3 dead w hB).mono ?_
    rintro e w' ⟨v, rfl, hs, hbel⟩
    exact ⟨_, _, _, _, nin, rfl, hs, h1.below hbel, h2.below hbel, h3.below hbel, hbel⟩
  · refine (fields10_row b off cap st.length B st a1 a2 a3 n1 c1 n2 c2 n3 c3 dead w rfl (List.length_pos_iff.2 hz) hbig hb hc hB).mono ?_
    rintro e w' ⟨v, rfl, hs, hbel⟩
    exact ⟨_, _, _, _, nin, rfl, hs, h1.below hbel, h2.below hbel, h3.below hbel, hbel⟩

end Go.Proofs.Qxb6614197a
