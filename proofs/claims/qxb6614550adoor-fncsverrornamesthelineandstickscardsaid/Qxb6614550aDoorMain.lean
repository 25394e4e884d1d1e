import Derived.Test.Qxb6614550aDoorCsv
namespace Go.Proofs.Qxb6614550aDoor
open Go.RowKit

theorem assert34 (v : Value) (w : World) : (Instr.typeAssert (.iface 34 v) 36 34 true).run Tryd.prog w = .ok (.tuple #[v, .bool true]) w := by kernel_rfl

set_option maxHeartbeats 800000 in
theorem mk9 (sl ln cl : Int) (I : Nat) (w : World) :
    Calls Tryd.prog 9 #[.int .i64 sl, .int .i64 ln, .int .i64 cl, .pointer (some ⟨I, 0, none⟩)] w fun e w' => ∃ X C, e = .returned (.pointer (some ⟨X, 0, none⟩)) ∧ w'.cell? ⟨X, 0, none⟩ = some (.iface 51 (.pointer (some ⟨C, 0, none⟩))) ∧ w'.heap[C]? = some (.cells #[.int .i64 sl, .int .i64 ln, .int .i64 cl, .iface 34 (.pointer (some ⟨I, 0, none⟩))] 53 (0, 0)) ∧ Below w.heap.size w w' := by
  go_enter Tryd.func9, Tryd.ntmps9
  go_wp2
  go_ret
  refine ⟨w.heap.size + 1, w.heap.size, rfl, by simp, ?_, ((Below.refl _ _).alloc (Nat.le_refl _) _).alloc (by simp) _⟩
  rw [Below.heap_alloc _ _ _ (by simp), heap_alloc_new]

set_option maxHeartbeats 800000 in
theorem csv10_hit (X C I : Nat) (name : ByteArray) (sl ln cl : Int) (w : World) (hg : w.cell? ⟨1, 0, none⟩ = some hand) (hX : w.cell? ⟨X, 0, none⟩ = some (.iface 51 (.pointer (some ⟨C, 0, none⟩))))
    (bC : w.heap[C]? = some (.cells #[.int .i64 sl, .int .i64 ln, .int .i64 cl, .iface 34 (.pointer (some ⟨I, 0, none⟩))] 53 (0, 0))) :
    Calls Tryd.prog 10 #[.string name, .pointer (some ⟨X, 0, none⟩)] w fun e w' => ∃ Y P, e = .returned (.pointer (some ⟨Y, 0, none⟩)) ∧ w'.cell? ⟨Y, 0, none⟩ = some (.iface 34 (.pointer (some ⟨P, 0, none⟩))) ∧ w'.heap[P]? = some (.cells #[.string name, .int .i64 ln, .iface 34 (.pointer (some ⟨I, 0, none⟩))] 38 (0, 0)) ∧ w.heap.size ≤ P ∧ Below w.heap.size w w' := by
  have HG : Hid (w.cell? ⟨1, 0, none⟩ = some hand) := hg
  have HC : Hid (w.heap[C]? = some (.cells #[.int .i64 sl, .int .i64 ln, .int .i64 cl, .iface 34 (.pointer (some ⟨I, 0, none⟩))] 53 (0, 0))) := bC
  clear hg bC
  go_enter Tryd.func10, Tryd.ntmps10
  go_wp2_with fail
  refine (csv17_hit C I name sl ln cl w HG.out HC.out).mono ?_
  rintro e w2 ⟨P, rfl, bP, hP, hb⟩
  have hPs : P < w2.heap.size := (Array.getElem?_eq_some_iff.1 bP).1
  have HP : Hid (w2.heap[P]? = some (.cells #[.string name, .int .i64 ln, .iface 34 (.pointer (some ⟨I, 0, none⟩))] 38 (0, 0))) := bP
  clear bP
  go_wp2
  go_ret
  exact ⟨w2.heap.size, P, rfl, by simp, (Below.heap_alloc _ _ _ hPs).trans HP.out, hP, hb.alloc hb.size _⟩

set_option maxHeartbeats 800000 in
theorem csv10_miss (X P1 P2 : Nat) (name : ByteArray) (w : World) (hg : w.cell? ⟨1, 0, none⟩ = some hand) (hX : w.cell? ⟨X, 0, none⟩ = some (.iface 34 (.pointer (some ⟨P1, 0, none⟩)))) (c1 : w.cell? ⟨P1, 2, none⟩ = some (.iface 34 (.pointer (some ⟨P2, 0, none⟩)))) (c2 : w.cell? ⟨P2, 2, none⟩ = some .nilIface) :
    Calls Tryd.prog 10 #[.string name, .pointer (some ⟨X, 0, none⟩)] w fun e w' => ∃ Y, e = .returned (.pointer (some ⟨Y, 0, none⟩)) ∧ w'.cell? ⟨Y, 0, none⟩ = some (.iface 34 (.pointer (some ⟨P1, 0, none⟩))) ∧ Below w.heap.size w w' := by
  have HG : Hid (w.cell? ⟨1, 0, none⟩ = some hand) := hg
  have H1 : Hid (w.cell? ⟨P1, 2, none⟩ = some (.iface 34 (.pointer (some ⟨P2, 0, none⟩)))) := c1
  have H2 : Hid (w.cell? ⟨P2, 2, none⟩ = some .nilIface) := c2
  clear hg c1 c2
  go_enter Tryd.func10, Tryd.ntmps10
  go_wp2_with fail
  refine (csv17_miss P1 P2 name w HG.out H1.out H2.out).mono ?_
  rintro e w2 ⟨rfl, hb⟩
  go_wp2
  go_ret
  exact ⟨w2.heap.size, rfl, by simp, hb.alloc hb.size _⟩

theorem isNil11 (X P : Nat) (w : World) (hX : w.cell? ⟨X, 0, none⟩ = some (.iface 34 (.pointer (some ⟨P, 0, none⟩)))) :
    Calls Tryd.prog 11 #[.pointer (some ⟨X, 0, none⟩)] w fun e w' => e = .returned (.bool false) ∧ w' = w := by
  go_enter Tryd.func11, Tryd.ntmps11
  go_wp2
  go_ret
  exact ⟨rfl, rfl⟩

theorem ours12 (X P : Nat) (w : World) (hX : w.cell? ⟨X, 0, none⟩ = some (.iface 34 (.pointer (some ⟨P, 0, none⟩)))) :
    Calls Tryd.prog 12 #[.pointer (some ⟨X, 0, none⟩)] w fun e w' => e = .returned (.pointer (some ⟨P, 0, none⟩)) ∧ w' = w := by
  have ha := assert34
  go_enter Tryd.func12, Tryd.ntmps12
  go_wp2
  go_ret
  exact ⟨rfl, rfl⟩

theorem inner13 (P I : Nat) (w : World) (hP : w.cell? ⟨P, 2, none⟩ = some (.iface 34 (.pointer (some ⟨I, 0, none⟩)))) :
    Calls Tryd.prog 13 #[.pointer (some ⟨P, 0, none⟩)] w fun e w' => e = .returned (.pointer (some ⟨I, 0, none⟩)) ∧ w' = w := by
  have ha := assert34
  go_enter Tryd.func13, Tryd.ntmps13
  go_wp2
  go_ret
  exact ⟨rfl, rfl⟩

theorem bytes8 (n1 n2 fl : ByteArray) (a b c d : Int) (w : World) (h1 : n1.size ≤ 9223372036854775807) (h2 : n2.size ≤ 9223372036854775807) (h3 : fl.size ≤ 9223372036854775807) :
    Calls Tryd.prog 8 #[.string n1, .string n2, .int .i64 a, .int .i64 b, .int .i64 c, .string fl, .int .i64 d] w fun e w' => e = .returned (.bool (decide (n1.size + n2.size + fl.size ≤ 1048576))) ∧ w' = w := by
  go_enter Tryd.func8, Tryd.ntmps8
  go_wp2
  all_goals (go_ret; refine ⟨congrArg (fun b => Ending.returned (Value.bool b)) ?_, rfl⟩; first | (symm; rw [decide_eq_true_eq]; omega) | (symm; rw [decide_eq_false_iff_not]; omega))
end Go.Proofs.Qxb6614550aDoor
