import Derived.Test.Qxb6614197aClone
import Derived.Test.Qxb6614197aEq
namespace Go.Proofs.Qxb6614197a
open Go.RowKit

/-- The order that lies in block B. -/
def OrdIs (w : World) (B : Nat) (nst : Bool) (st : List Int) (inl : List Int) (ntk : Bool) (tk : List Int) (nop : Bool) (op : List Int) (dead : Bool) : Prop :=
  ∃ vst vin vtk vop nin, w.heap[B]? = some (.cells #[vst, vin, vtk, vop, .bool dead] 41 (0, 0)) ∧ SlIs .i32 w vst nst st ∧ SlIs .i64 w vin nin inl ∧ SlIs .i64 w vtk ntk tk ∧ SlIs .i64 w vop nop op

theorem OrdIs.below {w w' : World} {B : Nat} {nst : Bool} {st inl : List Int} {ntk : Bool} {tk : List Int} {nop : Bool} {op : List Int} {dead : Bool} (h : OrdIs w B nst st inl ntk tk nop op dead) (hb : Below w.heap.size w w') : OrdIs w' B nst st inl ntk tk nop op dead := by
  obtain ⟨vst, vin, vtk, vop, nin, h1, h2, h3, h4, h5⟩ := h
  exact ⟨vst, vin, vtk, vop, nin, by rw [hb.block B (Array.getElem?_eq_some_iff.1 h1).1]; exact h1, h2.below hb, h3.below hb, h4.below hb, h5.below hb⟩

set_option maxHeartbeats 800000 in
theorem new8_row (b off cap n : Nat) (zs : List Int) (a1 a2 a3 : Option Addr) (n1 c1 n2 c2 n3 c3 : Nat) (dead : Bool) (w : World) (hn : n = zs.length) (hpos : 0 < n) (hbig : n ≤ 1048576) (hb : b < w.heap.size)
    (hc : ∀ j, j < n → w.cell? ⟨b, off + j, none⟩ = some (.int .i32 (zs.getD j 0))) :
    Calls Try.prog 8 #[.slice (some ⟨b, off, none⟩) n cap, .slice a1 n1 c1, .slice a2 n2 c2, .slice a3 n3 c3, .bool dead] w fun e w' => ∃ B v, e = .returned (.pointer (some ⟨B, 0, none⟩)) ∧ w'.heap[B]? = some (.cells #[v, .slice a1 n1 c1, .slice a2 n2 c2, .slice a3 n3 c3, .bool dead] 41 (0, 0)) ∧ SlIs .i32 w' v false zs ∧ Below w.heap.size w w' := by
  obtain ⟨i0, hi, hz0, hz1, hz2⟩ := info_parts Try.info39
  have q22 : ∀ (w : World) (a : Option Addr) (n c n' c' : Nat), (binOp .neq 22 (.slice a n c) (.slice none n' c')).run Try.prog w = .ok (.bool (!a.isNone)) w := fun w a n c n' c' => run_neq_slice_nil_any w _ _ a n c n' c' Try.underlying22
  have HN : Hid (n = zs.length) := hn
  clear hn
  have hb2 : i0.bytes * n ≤ 281474976710656 := by rw [hz2]; omega
  have HC : Hid (∀ j, j < n → w.cell? ⟨b, off + j, none⟩ = some (.int .i32 (zs.getD j 0))) := hc
  clear hc
  go_enter Try.func8, Try.ntmps8
  go_wp2_with (at_make; refine wpList_make_full _ rfl _ _ 38 rfl w.heap.size 39 i0 (.int .i32 0) 1 Try.underlying38 hi hz0 hz1 _ _ _ _ n rfl rfl rfl rfl hb2 (by unfold maxLen; omega) (Nat.le_refl _) ?_; intro w1 hown hgrow)
  have hB1 : Below w.heap.size w w1 := (Below.refl _ _).grown hgrow (Nat.le_refl _) (fun k hk => by cases hk)
  obtain ⟨L0, hown0⟩ : ∃ L, w1.ownsRow w.heap.size 39 1 (.slice (some ⟨w.heap.size, 0, none⟩) n n) n L := ⟨_, hown⟩
  clear hown hgrow
  go_loopw [12] (fun i wr => ∃ (k : Nat) (L : List Value), k ≤ n ∧ i = .int .i64 k ∧ wr.ownsRow w.heap.size 39 1 (.slice (some ⟨w.heap.size, 0, none⟩) n n) n L ∧ Below w.heap.size w wr ∧ Hid (∀ j, j < k → L[j]? = some (.int .i32 (zs.getD j 0)))) (fun i _ => n - (intOf i).toNat)
  case atStart => exact ⟨0, L0, Nat.zero_le _, rfl, hown0, hB1, fun j hj => absurd hj (Nat.not_lt_zero _)⟩
  case round =>
    obtain ⟨k, L, hk, rfl, hown, hB, hL⟩ := hrel
    by_cases hlt : k < n
    · have hcell : wr.cell? ⟨b, off + k, none⟩ = some (.int .i32 (zs.getD k 0)) := (hB.cell (p := ⟨b, off + k, none⟩) hb).trans (HC.out k hlt)
      obtain ⟨u, hu⟩ : ∃ u, u = zs.getD k 0 := ⟨_, rfl⟩
      rw [← hu] at hcell
      have HU : Hid (u = zs.getD k 0) := hu
      clear hu
      have hfz := hown.frozenAt k
      have hlen : L.length = n := by have := hown.1; omega
      obtain ⟨u0, hcell2⟩ : ∃ u0, wr.cell? ⟨w.heap.size, k, none⟩ = some u0 := ⟨_, (hown.cellAt k (by omega)).trans (List.getElem?_eq_getElem (by omega))⟩
      have HST : Hid ((wr.setCell ⟨w.heap.size, k, none⟩ (.int .i32 u)).ownsRow w.heap.size 39 1 (.slice (some ⟨w.heap.size, 0, none⟩) n n) n (L.set k (.int .i32 u))) := (hown.stored k (.int .i32 u)).1
      have HB : Hid (Below w.heap.size w (wr.setCell ⟨w.heap.size, k, none⟩ (.int .i32 u))) := hB.setCell (Nat.le_refl _) _
      have HL := set_next hL HU.out (by omega)
      have hk1 : k + 1 ≤ n := hlt
      clear hown hlen
      go_wp2
      go_roundw
      case rel => exact ⟨k + 1, L.set k (.int .i32 u), hk1, by go_num, HST.out, HB.out, HL⟩
      case measure => simp [intOf]; omega
    · have hkn : k = n := by omega
      have HS : Hid (SlIs .i32 wr (.slice (some ⟨w.heap.size, 0, none⟩) n n) false zs) := SlIs.of_own hown HN.out (fun j hj => hL.out j (by omega))
      have HB : Hid (Below w.heap.size w wr) := hB
      clear hB hown hL hkn
      go_wp2
      go_ret
      exact ⟨_, _, rfl, heap_alloc_new _ _, HS.out.below ((Below.refl _ _).alloc (Nat.le_refl _) _), HB.out.alloc HB.out.size _⟩

set_option maxHeartbeats 800000 in
theorem new8_empty (a : Option Addr) (cap : Nat) (a1 a2 a3 : Option Addr) (n1 c1 n2 c2 n3 c3 : Nat) (dead : Bool) (w : World) :
    Calls Try.prog 8 #[.slice a 0 cap, .slice a1 n1 c1, .slice a2 n2 c2, .slice a3 n3 c3, .bool dead] w fun e w' => ∃ B v, e = .returned (.pointer (some ⟨B, 0, none⟩)) ∧ w'.heap[B]? = some (.cells #[v, .slice a1 n1 c1, .slice a2 n2 c2, .slice a3 n3 c3, .bool dead] 41 (0, 0)) ∧ SlIs .i32 w' v a.isNone [] ∧ Below w.heap.size w w' := by
  obtain ⟨i0, hi, hz0, hz1, hz2⟩ := info_parts Try.info39
  have q22 : ∀ (w : World) (a : Option Addr) (n c n' c' : Nat), (binOp .neq 22 (.slice a n c) (.slice none n' c')).run Try.prog w = .ok (.bool (!a.isNone)) w := fun w a n c n' c' => run_neq_slice_nil_any w _ _ a n c n' c' Try.underlying22
  cases a with
  | none =>
    go_enter Try.func8, Try.ntmps8
    go_wp2
    go_ret
    exact ⟨_, _, rfl, heap_alloc_new _ _, .inl ⟨rfl, _, _, rfl, rfl⟩, (Below.refl _ _).alloc (Nat.le_refl _) _⟩
  | some x =>
    go_enter Try.func8, Try.ntmps8
    go_wp2_with (at_make; refine wpList_make_full _ rfl _ _ 38 rfl w.heap.size 39 i0 (.int .i32 0) 1 Try.underlying38 hi hz0 hz1 _ _ _ _ 0 rfl rfl rfl rfl (by omega) (by unfold maxLen; omega) (Nat.le_refl _) ?_; intro w1 hown hgrow)
    have hB1 : Below w.heap.size w w1 := (Below.refl _ _).grown hgrow (Nat.le_refl _) (fun k hk => by cases hk)
    clear hown hgrow
    refine wp_loop_rounds 1 ?_
    rw [rounds_succ]
    go_wp2
    go_ret
    exact ⟨_, _, rfl, heap_alloc_new _ _, .inl ⟨rfl, _, _, rfl, rfl⟩, hB1.alloc hB1.size _⟩

/-- THE CONTRACT OF ZZNewOrder. -/
theorem new8 (v v1 v2 v3 : Value) (nst nin ntk nop dead : Bool) (st inl tk op : List Int) (w : World) (h : SlIs .i32 w v nst st) (h1 : SlIs .i64 w v1 nin inl) (h2 : SlIs .i64 w v2 ntk tk) (h3 : SlIs .i64 w v3 nop op) (hbig : st.length ≤ 1048576) :
    Calls Try.prog 8 #[v, v1, v2, v3, .bool dead] w fun e w' => ∃ B, e = .returned (.pointer (some ⟨B, 0, none⟩)) ∧ OrdIs w' B nst st inl ntk tk nop op dead ∧ Below w.heap.size w w' := by
  obtain ⟨a1, n1, c1, e1, _⟩ := h1.form
  obtain ⟨a2, n2, c2, e2, _⟩ := h2.form
  obtain ⟨a3, n3, c3, e3, _⟩ := h3.form
  subst e1 e2 e3
  rcases h with ⟨rfl, a, cap, rfl, rfl⟩ | ⟨hz, rfl, b, off, cap, rfl, hb, hc⟩
  · refine (new8_empty a cap a1 a2 a3 n1 c1 n2 c2 n3 c3 dead w).mono ?_
    rintro e w' ⟨B, v, rfl, hB, hs, hbel⟩
    exact ⟨B, rfl, ⟨_, _, _, _, _, hB, hs, h1.below hbel, h2.below hbel, h3.below hbel⟩, hbel⟩
  · refine (new8_row b off cap st.length st a1 a2 a3 n1 c1 n2 c2 n3 c3 dead w rfl (List.length_pos_iff.2 hz) hbig hb hc).mono ?_
    rintro e w' ⟨B, v, rfl, hB, hs, hbel⟩
    exact ⟨B, rfl, ⟨_, _, _, _, _, hB, hs, h1.below hbel, h2.below hbel, h3.below hbel⟩, hbel⟩

end Go.Proofs.Qxb6614197a
