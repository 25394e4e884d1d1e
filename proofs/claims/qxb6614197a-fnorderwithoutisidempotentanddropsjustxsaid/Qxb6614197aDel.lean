import Derived.Test.Qxb6614197aShelf
import Derived.Test.Qxb6614197aOrd
namespace Go.Proofs.Qxb6614197a
open Go.Shelf Go.RowKit Go.Lib Go.Sort

theorem gives21 (x z : Int) (B : Nat) (W : World) (hc : W.cell? ⟨B, 0, none⟩ = some (.int .i64 x)) :
    FnGives Try.prog 21 #[.pointer (some ⟨B, 0, none⟩)] #[.int .i64 z] (.bool (z == x)) W := by
  show Calls Try.prog 21 #[.int .i64 z, .pointer (some ⟨B, 0, none⟩)] W _
  go_enter Try.func21, Try.ntmps21
  go_wp2
  all_goals (go_ret; exact ⟨by simp_all, 0, rfl⟩)

theorem pred21 (x : Int) (B : Nat) (w : World) (hB : B < w.heap.size) (hcell : w.cell? ⟨B, 0, none⟩ = some (.int .i64 x)) :
    PredAt Try.prog 21 #[.pointer (some ⟨B, 0, none⟩)] (Value.int .i64) (fun z => z == x) w :=
  fun W z hb => gives21 x z B W ((hb.cell (p := ⟨B, 0, none⟩) hB).trans hcell)

theorem over21 (x : Int) (B blk off size : Nat) (w : World) (hB : B < w.heap.size) (hne : B ≠ blk) (hcell : w.cell? ⟨B, 0, none⟩ = some (.int .i64 x)) :
    PredOver Try.prog 21 #[.pointer (some ⟨B, 0, none⟩)] (Value.int .i64) (fun z => z == x) blk off size w :=
  fun n os dk z _ => gives21 x z B _ (by
    unfold sortWorld
    rw [cell?_grow _ _ _ (by show B < (putRow _ _ _ _ _).heap.size; rw [size_putRow]; exact hB), cell?_putRow_other _ _ blk off _ _ (Or.inl hne)]
    exact hcell)

theorem putRow_below {α : Type} [Inhabited α] (enc : α → Value) (W w : World) (q blk off : Nat) (d : Array α) (B : Nat) (hb : Below B W w) (hB : B ≤ blk) : Below B W (putRow enc (Sort.ahead w q) blk off d) := by
  refine hb.trans ⟨rfl, rfl, rfl, ?_, fun k hk => ?_⟩
  · rw [size_putRow]; exact Nat.le_refl _
  · simp only [putRow, mapBlock, Array.getElem?_modify]
    rw [if_neg (by omega)]
    rfl

def keep1 (x : Int) (zs : List Int) : List Int := zs.filter (fun z => !(z == x))

set_option maxHeartbeats 1000000 in
/-- slices.DeleteFunc at the closure of 'without', over a row of the call's own. -/
theorem del19_row (x : Int) (Bx g cap B0 : Nat) (zs : List Int) (w : World) (hBx : Bx < w.heap.size) (hne : Bx ≠ g) (hcell : w.cell? ⟨Bx, 0, none⟩ = some (.int .i64 x)) (hg : g < w.heap.size) (hB0 : B0 ≤ g)
    (hH : Holds (Value.int .i64) w g 0 zs.toArray) (hsz : zs.length ≤ 1048576) (hcap : zs.length ≤ cap) :
    Calls Try.prog 19 #[.slice (some ⟨g, 0, none⟩) zs.length cap, .func (.func 21) #[] #[.pointer (some ⟨Bx, 0, none⟩)]] w fun e w' => ∃ v nl, e = .returned v ∧ SlIs .i64 w' v nl (keep1 x zs) ∧ Below B0 w w' := by
  have eg : ∀ args w, (callFunc 21 args).run Try.prog w = .ok (.enter 21 args) w := enters_of Try.func21 (by kernel_rfl) rfl
  have hcon := Try.slices_DeleteFunc (Value.int .i64) (fun _ => rfl) (fun z => z == x) 21 #[.pointer (some ⟨Bx, 0, none⟩)] eg 0 Try.zeroValue3 g 0 cap zs.toArray w
    (pred21 x Bx w hBx hcell) (over21 x Bx g 0 _ w hBx hne hcell) hH (by simp; omega) (by simpa using hcap)
  rw [show (zs.toArray).size = zs.length from by simp] at hcon
  refine hcon.mono ?_
  rintro e w' ⟨rfl, q, rfl⟩
  have hl : (keep1 x zs).length ≤ zs.length := List.length_filter_le _ _
  have hk : (zs.toArray.toList.filter fun z => !(z == x)) = keep1 x zs := rfl
  rw [hk]
  generalize keep1 x zs = ks at hl ⊢
  have hsize : ((ks ++ List.replicate (zs.length - ks.length) (0 : Int)).toArray).size = zs.length := by simp; omega
  have hh := holds_putRow (Value.int .i64) (Sort.ahead w q) g 0 zs.toArray (ks ++ List.replicate (zs.length - ks.length) (0 : Int)).toArray (holds_ahead _ _ _ _ _ _ hH) (by simpa using hsize)
  refine ⟨_, false, rfl, ?_, putRow_below _ _ _ _ _ _ _ _ (Below.refl _ _) hB0⟩
  by_cases hz : ks = []
  · subst hz; exact .inl ⟨rfl, _, _, rfl, rfl⟩
  · refine .inr ⟨hz, rfl, g, 0, cap, rfl, by rw [size_putRow]; exact hg, fun j hj => ?_⟩
    have := (hh j (by rw [hsize]; omega)).1
    rw [this]
    congr 2
    rw [getElem!_pos _ j (by rw [hsize]; omega)]
    simp [hj]

set_option maxHeartbeats 1000000 in
theorem del19_empty (a : Option Addr) (cap : Nat) (fv : Value) (w : World) :
    Calls Try.prog 19 #[.slice a 0 cap, fv] w fun e w' => e = .returned (.slice a 0 cap) ∧ w' = w := by
  go_enter Try.func19, Try.ntmps19
  go_wp2_with fail
  refine (Try.slices_IndexFunc_empty (α := Int) a cap fv w).mono ?_
  rintro e w' ⟨rfl, rfl⟩
  go_wp2
  go_ret
  exact ⟨rfl, rfl⟩

/-- slices.Clone in our words. -/
theorem clone20 (v : Value) (nl : Bool) (zs : List Int) (w : World) (h : SlIs .i64 w v nl zs) (hbig : zs.length ≤ 1048576) :
    Calls Try.prog 20 #[v] w fun e w' => Below w.heap.size w w' ∧ ((zs = [] ∧ ∃ a cap, e = .returned (.slice a 0 cap)) ∨ (∃ g cap, e = .returned (.slice (some ⟨g, 0, none⟩) zs.length cap) ∧ w.heap.size ≤ g ∧ g < w'.heap.size ∧ Holds (Value.int .i64) w' g 0 zs.toArray ∧ zs.length ≤ cap)) := by
  rcases h with ⟨rfl, a, cap, rfl, rfl⟩ | ⟨hz, rfl, b, off, cap, rfl, hb, hc⟩
  · cases a with
    | none =>
      refine (Try.slices_Clone_int_nil 0 cap w).mono ?_
      rintro e w' ⟨rfl, rfl⟩
      exact ⟨Below.refl _ _, .inl ⟨rfl, _, _, rfl⟩⟩
    | some ad =>
      refine (Try.slices_Clone_int_zero ad cap w).mono ?_
      rintro e w' ⟨v', rfl, ho, hne, hbel⟩
      refine ⟨hbel, .inl ⟨rfl, ?_⟩⟩
      rcases ho.2 with ⟨h', _⟩ | ⟨g, cap', cur, h', _⟩
      · exact absurd h' hne
      · exact ⟨_, _, congrArg _ h'⟩
  · refine (Try.slices_Clone_int b off zs.length cap zs w (Nat.le_refl _) (by omega) hc).mono ?_
    rintro e w' ⟨v', rfl, ho, hne, hbel⟩
    refine ⟨hbel, .inr ?_⟩
    rcases ho.2 with ⟨h', _⟩ | ⟨g, cap', cur, h', hg, hh, hnc, _⟩
    · exact absurd h' hne
    · subst h'
      refine ⟨g, cap', rfl, hg, (Array.getElem?_eq_some_iff.1 hh).1, fun j hj => ⟨?_, ?_⟩, hnc⟩
      · have hj' : j < zs.length := by simpa using hj
        rw [Nat.zero_add, ho.cellAt j (by omega)]
        simp [hj']
      · rw [Nat.zero_add]; exact ho.frozenAt j

end Go.Proofs.Qxb6614197a
