import Derived.Test.Qxb6614550aDoorMiss
import Derived.Deep.QuietTactic
import Derived.BigQuiet
namespace Go.Proofs.Qxb6614550aDoor
open Go.RowKit

def hand : Value := .iface 76 (.agg #[.pointer (some ⟨2, 36, none⟩)])

/-- errors.As where the error is a *csv.ParseError: the target's variable, the last block, is set. -/
theorem as_hit2 (e : Addr) (T : Nat) (old : Value) (w : World) (hg : w.cell? ⟨1, 0, none⟩ = some hand) (ht0 : w.cell? ⟨T, 0, none⟩ = some old) (hf0 : w.frozen? ⟨T, 0, none⟩ = false) :
    Calls Tryd.prog 18 #[.iface 51 (.pointer (some e)), .iface 61 (.pointer (some ⟨T, 0, none⟩))] w fun ev w' => ev = .returned (.bool true) ∧ w'.cell? ⟨T, 0, none⟩ = some (.pointer (some e)) ∧ Below T w w' := by
  refine (as_hit e ⟨T, 0, none⟩ old w hg ht0 hf0).mono ?_
  rintro ev w' ⟨rfl, rfl⟩
  have hT : T < w.heap.size := cell_lt ht0
  have hb : Below w.heap.size w ((((w.alloc (.cells #[.pointer (some ⟨T, 0, none⟩)] 61)).alloc (.cells #[.pointer (some ⟨2, 61, none⟩), .pointer (some ⟨w.heap.size, 0, none⟩), .int .u64 150] 65)).alloc (.cells #[.pointer (some ⟨2, 61, none⟩), .pointer (some ⟨w.heap.size, 0, none⟩), .int .u64 150] 65)).alloc (.cells #[.pointer (some e)] 51)) :=
    ((((Below.refl _ _).alloc (Nat.le_refl _) _).alloc (by simp) _).alloc (by simp; omega) _).alloc (by simp; omega) _
  refine ⟨rfl, ?_, (hb.mono (Nat.le_of_lt hT)).setCell (p := ⟨T, 0, none⟩) (Nat.le_refl _) _⟩
  exact World.cell?_setCell_same _ _ _ ((hb.cell (p := ⟨T, 0, none⟩) hT).trans ht0)

theorem as_miss2 (P1 P2 : Nat) (t : Addr) (w : World) (hg : w.cell? ⟨1, 0, none⟩ = some hand) (c1 : w.cell? ⟨P1, 2, none⟩ = some (.iface 34 (.pointer (some ⟨P2, 0, none⟩)))) (c2 : w.cell? ⟨P2, 2, none⟩ = some .nilIface) :
    Calls Tryd.prog 18 #[.iface 34 (.pointer (some ⟨P1, 0, none⟩)), .iface 61 (.pointer (some t))] w fun ev w' => ev = .returned (.bool false) ∧ Below w.heap.size w w' := by
  refine (as_miss P1 P2 t w hg c1 c2).mono ?_
  rintro ev w' ⟨rfl, rfl⟩
  exact ⟨rfl, (((Below.refl _ _).alloc (Nat.le_refl _) _).alloc (by simp) _).alloc (by simp; omega) _⟩

set_option maxHeartbeats 1600000 in
/-- csvError of a *csv.ParseError. -/
theorem csv17_hit (C I : Nat) (name : ByteArray) (sl ln cl : Int) (w : World) (hg : w.cell? ⟨1, 0, none⟩ = some hand)
    (bC : w.heap[C]? = some (.cells #[.int .i64 sl, .int .i64 ln, .int .i64 cl, .iface 34 (.pointer (some ⟨I, 0, none⟩))] 53 (0, 0))) :
    Calls Tryd.prog 17 #[.string name, .iface 51 (.pointer (some ⟨C, 0, none⟩))] w fun e w' => ∃ P, e = .returned (.iface 34 (.pointer (some ⟨P, 0, none⟩))) ∧ w'.heap[P]? = some (.cells #[.string name, .int .i64 ln, .iface 34 (.pointer (some ⟨I, 0, none⟩))] 38 (0, 0)) ∧ w.heap.size ≤ P ∧ Below w.heap.size w w' := by
  have hlt : 1 < w.heap.size := cell_lt hg
  have hC : C < w.heap.size := (Array.getElem?_eq_some_iff.1 bC).1
  have g1 : w.cell? ⟨C, 1, none⟩ = some (.int .i64 ln) := by rw [cell_of_row w C 1 _ _ _ bC]; rfl
  have g3 : w.cell? ⟨C, 3, none⟩ = some (.iface 34 (.pointer (some ⟨I, 0, none⟩))) := by rw [cell_of_row w C 3 _ _ _ bC]; rfl
  have hg1 : (w.alloc (.cells #[.pointer none] 51)).cell? ⟨1, 0, none⟩ = some hand := by rw [World.cell?_alloc_lt _ _ ⟨1, 0, none⟩ hlt]; exact hg
  have HG : Hid ((w.alloc (.cells #[.pointer none] 51)).cell? ⟨1, 0, none⟩ = some hand) := hg1
  clear bC hg hg1
  go_enter Tryd.func17, Tryd.ntmps17
  go_wp2_with fail
  refine (as_hit2 ⟨C, 0, none⟩ w.heap.size (.pointer none) _ HG.out (by simp) (by simp)).mono ?_
  rintro e w2 ⟨rfl, hT, hb⟩
  have hb2 : Below w.heap.size w w2 := ((Below.refl _ _).alloc (Nat.le_refl _) _).trans hb
  have r1 := (hb2.cell (p := ⟨C, 1, none⟩) hC).trans g1
  have r3 := (hb2.cell (p := ⟨C, 3, none⟩) hC).trans g3
  have HB : Hid (Below w.heap.size w w2) := hb2
  clear hb hb2 g1 g3 HG
  go_wp2
  go_region
  all_goals (try go_wp2)
  all_goals go_ret
  all_goals exact ⟨w2.heap.size, rfl, heap_alloc_new _ _, HB.out.size, (HB.out.alloc HB.out.size _).drew⟩

set_option maxHeartbeats 1600000 in
/-- csvError of one of our own, over another of our own. -/
theorem csv17_miss (P1 P2 : Nat) (name : ByteArray) (w : World) (hg : w.cell? ⟨1, 0, none⟩ = some hand) (c1 : w.cell? ⟨P1, 2, none⟩ = some (.iface 34 (.pointer (some ⟨P2, 0, none⟩)))) (c2 : w.cell? ⟨P2, 2, none⟩ = some .nilIface) :
    Calls Tryd.prog 17 #[.string name, .iface 34 (.pointer (some ⟨P1, 0, none⟩))] w fun e w' => e = .returned (.iface 34 (.pointer (some ⟨P1, 0, none⟩))) ∧ Below w.heap.size w w' := by
  have hlt : 1 < w.heap.size := cell_lt hg
  have hP1 : P1 < w.heap.size := cell_lt c1
  have hP2 : P2 < w.heap.size := cell_lt c2
  have HG : Hid ((w.alloc (.cells #[.pointer none] 51)).cell? ⟨1, 0, none⟩ = some hand) := by rw [World.cell?_alloc_lt _ _ ⟨1, 0, none⟩ hlt]; exact hg
  have H1 : Hid ((w.alloc (.cells #[.pointer none] 51)).cell? ⟨P1, 2, none⟩ = some (.iface 34 (.pointer (some ⟨P2, 0, none⟩)))) := by rw [World.cell?_alloc_lt _ _ ⟨P1, 2, none⟩ hP1]; exact c1
  have H2 : Hid ((w.alloc (.cells #[.pointer none] 51)).cell? ⟨P2, 2, none⟩ = some .nilIface) := by rw [World.cell?_alloc_lt _ _ ⟨P2, 2, none⟩ hP2]; exact c2
  clear hg c1 c2
  go_enter Tryd.func17, Tryd.ntmps17
  go_wp2_with fail
  refine (as_miss2 P1 P2 _ _ HG.out H1.out H2.out).mono ?_
  rintro e w2 ⟨rfl, hb⟩
  have hb2 : Below w.heap.size w w2 := ((Below.refl _ _).alloc (Nat.le_refl _) _).trans (hb.mono (by simp))
  clear hb HG H1 H2
  go_wp2
  go_ret
  exact ⟨rfl, hb2⟩
end Go.Proofs.Qxb6614550aDoor
