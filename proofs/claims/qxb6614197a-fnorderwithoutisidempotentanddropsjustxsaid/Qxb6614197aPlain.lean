import Derived.Test.Qxb6614197aWithout
import Derived.Test.Qxb6614197aFields
import Derived.Test.Qxb6614197aMore
import Derived.Test.Qxb6614197aDrop
namespace Go.Proofs.Qxb6614197a
open Go.RowKit

theorem keep1_eq (x : Int) (zs : List Int) : keep1 x zs = keep2 x x zs := by
  unfold keep1 keep2
  congr 1
  funext z
  by_cases h : z = x <;> simp [h, bne]
theorem keep1_keep1 (x y : Int) (zs : List Int) : keep1 y (keep1 x zs) = keep2 x y zs := by
  unfold keep1 keep2
  rw [List.filter_filter]
  congr 1
  funext z
  by_cases h : z = x <;> by_cases h2 : z = y <;> simp [h, h2, bne, Bool.and_comm]
theorem keep2_comm (x y : Int) (zs : List Int) : keep2 y x zs = keep2 x y zs := by
  unfold keep2
  congr 1
  funext z
  rw [Bool.and_comm]
theorem keep1_le (x : Int) (zs : List Int) : (keep1 x zs).length ≤ zs.length := List.length_filter_le _ _
theorem keep2_le (x y : Int) (zs : List Int) : (keep2 x y zs).length ≤ zs.length := List.length_filter_le _ _


theorem below_of {w w' : World} (h : ∃ q, w' = w.drewN q) : Below w.heap.size w w' := by obtain ⟨q, rfl⟩ := h; exact below_drewN (Below.refl _ _) q

theorem eq11b (v1 v2 : Value) (nl1 nl2 : Bool) (zs : List Int) (w : World) (h1 : SlIs .i64 w v1 nl1 zs) (h2 : SlIs .i64 w v2 nl2 zs) (hbig : zs.length ≤ 1048576) :
    Calls Try.prog 11 #[v1, v2] w fun e w' => e = .returned (.bool true) ∧ Below w.heap.size w w' :=
  (eq11 v1 v2 nl1 nl2 zs w h1 h2 hbig).mono fun _ _ h => ⟨h.1, below_of h.2⟩
theorem same14b (v1 v2 : Value) (nl : Bool) (zs : List Int) (w : World) (h1 : SlIs .i32 w v1 nl zs) (h2 : SlIs .i32 w v2 nl zs) (hbig : zs.length ≤ 1048576) :
    Calls Try.prog 14 #[v1, v2] w fun e w' => e = .returned (.bool true) ∧ Below w.heap.size w w' :=
  (same14 v1 v2 nl zs w h1 h2 hbig).mono fun _ _ h => ⟨h.1, below_of h.2⟩
theorem same15b (v1 v2 : Value) (nl : Bool) (zs : List Int) (w : World) (h1 : SlIs .i64 w v1 nl zs) (h2 : SlIs .i64 w v2 nl zs) (hbig : zs.length ≤ 1048576) :
    Calls Try.prog 15 #[v1, v2] w fun e w' => e = .returned (.bool true) ∧ Below w.heap.size w w' :=
  (same15 v1 v2 nl zs w h1 h2 hbig).mono fun _ _ h => ⟨h.1, below_of h.2⟩
theorem rest13b (v1 v2 v3 u1 u2 u3 : Value) (nst ntk nop : Bool) (st tk op : List Int) (w : World) (h1 : SlIs .i32 w v1 nst st) (g1 : SlIs .i32 w u1 nst st) (h2 : SlIs .i64 w v2 ntk tk) (g2 : SlIs .i64 w u2 ntk tk) (h3 : SlIs .i64 w v3 nop op) (g3 : SlIs .i64 w u3 nop op)
    (b1 : st.length ≤ 1048576) (b2 : tk.length ≤ 1048576) (b3 : op.length ≤ 1048576) :
    Calls Try.prog 13 #[v1, v2, v3, .bool false, u1, u2, u3] w fun e w' => e = .returned (.bool true) ∧ Below w.heap.size w w' :=
  (rest13 v1 v2 v3 u1 u2 u3 nst ntk nop st tk op w h1 g1 h2 g2 h3 g3 b1 b2 b3).mono fun _ _ h => ⟨h.1, below_of h.2⟩

end Go.Proofs.Qxb6614197a
