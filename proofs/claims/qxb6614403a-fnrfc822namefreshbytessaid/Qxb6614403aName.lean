import Derived.Test.Qxb6614403aRows
import Derived.WalkKit
import Derived.WalkSpells
import Derived.WalkLawsBesides
import Derived.Lib.SliceRun
import Derived.Deep.QuietTactic
import Derived.BigQuiet
import Derived.Laws.IdiomStrings
namespace Go.Proofs.Qxb6614403a
open Go.RowKit

theorem below_drewN {B : Nat} {a w : World} (h : Below B a w) (n : Nat) : Below B a (w.drewN n) := ⟨h.os, h.tape, h.output, h.size, h.block⟩

theorem row_heap (w1 : World) (o : Obj) : (w1.alloc o).heap[w1.heap.size]? = some o := by
  show (w1.heap.push o)[w1.heap.size]? = _
  simp
theorem row_cell (w1 : World) (s : ByteArray) (C : Nat) (m : Nat × Nat) (j : Nat) (h : j < s.size) : (w1.alloc (.cells (bytesRow s C) 5 m)).cell? ⟨w1.heap.size, j, none⟩ = some (.int .u8 (s[j].toNat)) := by
  unfold World.cell?
  rw [row_heap]
  have hj : j < s.data.size := h
  simp only [bytesRow, Option.isSome_none, Bool.false_eq_true, if_false]
  rw [Array.getElem?_append_left (by simpa using hj)]
  simp only [Array.getElem?_map, Array.getElem?_eq_getElem hj]
  rfl
theorem row_free (w1 : World) (s : ByteArray) (C : Nat) (j : Nat) (h : j < s.size) : (w1.alloc (.cells (bytesRow s C) 5 ((bytesRow s C).size, (bytesRow s C).size + 1))).frozen? ⟨w1.heap.size, j, none⟩ = false := by
  have hj : j < s.data.size := h
  have hs : j < (bytesRow s C).size := by unfold bytesRow; simp; omega
  unfold World.frozen?
  rw [row_heap]
  generalize (bytesRow s C).size = n at hs
  simp
  omega

/-- Five cells of one block written. -/
def put5 (w1 : World) (g : Nat) (v0 v1 v2 v3 v4 : Value) : World :=
  ((((w1.setCell ⟨g, 0, none⟩ v0).setCell ⟨g, 1, none⟩ v1).setCell ⟨g, 2, none⟩ v2).setCell ⟨g, 3, none⟩ v3).setCell ⟨g, 4, none⟩ v4
theorem put5_block (w1 : World) (g : Nat) (v0 v1 v2 v3 v4 : Value) (k : Nat) (h : k ≠ g) : (put5 w1 g v0 v1 v2 v3 v4).heap[k]? = w1.heap[k]? := by
  unfold put5
  rw [Below.heap_setCell _ _ _ _ h, Below.heap_setCell _ _ _ _ h, Below.heap_setCell _ _ _ _ h, Below.heap_setCell _ _ _ _ h, Below.heap_setCell _ _ _ _ h]
theorem put5_size (w1 : World) (g : Nat) (v0 v1 v2 v3 v4 : Value) : (put5 w1 g v0 v1 v2 v3 v4).heap.size = w1.heap.size := by
  simp [put5, World.setCell]
theorem put5_below {B : Nat} {w w1 : World} (h : Below B w w1) (g : Nat) (hg : B ≤ g) (v0 v1 v2 v3 v4 : Value) : Below B w (put5 w1 g v0 v1 v2 v3 v4) :=
  ((((h.setCell (p := ⟨g, 0, none⟩) hg v0).setCell (p := ⟨g, 1, none⟩) hg v1).setCell (p := ⟨g, 2, none⟩) hg v2).setCell (p := ⟨g, 3, none⟩) hg v3).setCell (p := ⟨g, 4, none⟩) hg v4

set_option maxHeartbeats 800000 in
theorem name21 (s : ByteArray) (w : World) :
    Calls Try.prog 21 #[.string s] w fun e w' => ∃ B cap, e = .returned (.agg #[.int .i64 2, .int .i64 1, .bool false, .slice (some ⟨B, 0, none⟩) s.size cap, .slice none 0 0]) ∧ w.heap.size ≤ B ∧ B < w'.heap.size ∧ Below w.heap.size w w' ∧ (∀ j, (h : j < s.size) → w'.cell? ⟨B, j, none⟩ = some (.int .u8 (s[j].toNat))) ∧ ∀ j, j < s.size → w'.frozen? ⟨B, j, none⟩ = false := by
  have hcv := fun (w : World) => run_bytes_of_string (P := Try.prog) w 9 27 5 s Try.underlying9 Try.underlying27 Try.underlying5
  go_enter Try.func21, Try.ntmps21
  go_wp2
  generalize grownCap _ s.size 0 5 = C
  refine bodyPost_ret (v := .agg #[.int .i64 2, .int .i64 1, .bool false, .slice (some ⟨w.heap.size + 1, 0, none⟩) s.size C, .slice none 0 0]) (by simp [results, Try.results21, go_sem]) rfl ⟨w.heap.size + 1, C, rfl, by omega, by simp, (((Below.refl _ _).alloc (Nat.le_refl _) _).alloc (by simp) _).drew, fun j h => ?_, fun j h => ?_⟩
  · have := row_cell (w.alloc (.cells #[.int .i64 2, .int .i64 1, .bool false, .slice (some ⟨w.heap.size + 1, 0, none⟩) s.size C, .slice none 0 0] 36)) s C ((bytesRow s C).size, (bytesRow s C).size + 1) j h
    rw [show (w.alloc (.cells #[.int .i64 2, .int .i64 1, .bool false, .slice (some ⟨w.heap.size + 1, 0, none⟩) s.size C, .slice none 0 0] 36)).heap.size = w.heap.size + 1 from by simp] at this
    exact this
  · have := row_free (w.alloc (.cells #[.int .i64 2, .int .i64 1, .bool false, .slice (some ⟨w.heap.size + 1, 0, none⟩) s.size C, .slice none 0 0] 36)) s C j h
    rw [show (w.alloc (.cells #[.int .i64 2, .int .i64 1, .bool false, .slice (some ⟨w.heap.size + 1, 0, none⟩) s.size C, .slice none 0 0] 36)).heap.size = w.heap.size + 1 from by simp] at this
    exact this

set_option maxHeartbeats 800000 in
theorem name9 (s : ByteArray) (w : World) :
    Calls Try.prog 9 #[.string s] w fun e w' => ∃ B cap, e = .returned (.agg #[.int .i64 2, .int .i64 1, .bool false, .slice (some ⟨B, 0, none⟩) s.size cap, .slice none 0 0]) ∧ w.heap.size ≤ B ∧ B < w'.heap.size ∧ Below w.heap.size w w' ∧ (∀ j, (h : j < s.size) → w'.cell? ⟨B, j, none⟩ = some (.int .u8 (s[j].toNat))) ∧ ∀ j, j < s.size → w'.frozen? ⟨B, j, none⟩ = false := by
  go_enter Try.func9, Try.ntmps9
  go_wp2_with fail
  refine (name21 s _).mono ?_
  rintro e w1 ⟨B, cap, rfl, hB1, hB2, hbel, hc, hf⟩
  have hsz : w.heap.size + 1 ≤ B := by simpa using hB1
  have hb0 : Below (w.heap.size + 1) (w.alloc (.cells #[.int .i64 0, .int .i64 0, .bool false, .slice none 0 0, .slice none 0 0] 36)) w1 := hbel.mono (by simp)
  have hs1 : w.heap.size + 1 ≤ w1.heap.size := by have := hb0.size; simpa using this
  have d0 : ∀ j, w1.cell? ⟨w.heap.size, j, none⟩ = (w.alloc (.cells #[.int .i64 0, .int .i64 0, .bool false, .slice none 0 0, .slice none 0 0] 36)).cell? ⟨w.heap.size, j, none⟩ := fun j => hb0.cell (p := ⟨w.heap.size, j, none⟩) (by simp)
  have e0 : ∀ j, w1.frozen? ⟨w.heap.size, j, none⟩ = false := fun j => (hb0.frozen (p := ⟨w.heap.size, j, none⟩) (by simp)).trans (World.frozen?_alloc_at _ _ _ _ rfl)
  have HC : Hid _ := hc
  have HF : Hid _ := hf
  have HB : Hid _ := hb0
  clear hc hf hbel hb0 hB1
  go_wp2
  have hW : Below w.heap.size w w1 := ((Below.refl _ _).alloc (Nat.le_refl _) _).trans (HB.out.mono (by omega))
  refine bodyPost_ret (v := .agg #[.int .i64 2, .int .i64 1, .bool false, .slice (some ⟨B, 0, none⟩) s.size cap, .slice none 0 0]) (by simp [results, Try.results9, go_sem, d0]) rfl ⟨B, cap, rfl, by omega, ?_, put5_below hW w.heap.size (Nat.le_refl _) _ _ _ _ _, fun j h => ?_, fun j h => ?_⟩
  · exact Nat.lt_of_lt_of_eq hB2 (put5_size w1 w.heap.size _ _ _ _ _).symm
  · exact (World.cell?_of_block (a := ⟨B, j, none⟩) (put5_block w1 w.heap.size _ _ _ _ _ B (by omega))).trans (HC.out j h)
  · exact (World.frozen?_of_block (a := ⟨B, j, none⟩) (put5_block w1 w.heap.size _ _ _ _ _ B (by omega))).trans (HF.out j h)
end Go.Proofs.Qxb6614403a
