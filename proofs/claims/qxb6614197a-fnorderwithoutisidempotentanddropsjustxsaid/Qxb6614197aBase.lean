/-
  Seat b6614197a: the words in which the contracts speak. 'SlIs k w v nl zs': the slice value v reads, in the world w, as the list zs of integers of kind k; nl: it is nil.
-/
import Derived.Test.Qxb6614197aRows
import Derived.WalkKit
import Derived.WalkSpells
import Derived.WalkLawsBesides
import Derived.Lib.SliceRun
import Derived.Deep.QuietTactic
import Derived.BigQuiet
namespace Go.Proofs.Qxb6614197a
open Go.RowKit

theorem Try.info3 : (Try.prog.info? 3).map (fun i => (i.zero, i.size, i.bytes)) = some (some (.int .i64 0), 1, 8) := by kernel_rfl
theorem Try.info21 : (Try.prog.info? 21).map (fun i => (i.zero, i.size, i.bytes)) = some (some (.int .i32 0), 1, 4) := by kernel_rfl
theorem Try.info39 : (Try.prog.info? 39).map (fun i => (i.zero, i.size, i.bytes)) = some (some (.int .i32 0), 1, 4) := by kernel_rfl

/-- The slice value v reads as zs; nl: it is nil. Of the address of an empty slice that is not nil nothing is known. -/
def SlIs (k : IntKind) (w : World) (v : Value) (nl : Bool) (zs : List Int) : Prop :=
  (zs = [] ∧ ∃ a cap, v = .slice a 0 cap ∧ nl = a.isNone) ∨
  (zs ≠ [] ∧ nl = false ∧ ∃ b off cap, v = .slice (some ⟨b, off, none⟩) zs.length cap ∧ b < w.heap.size ∧ ∀ j, j < zs.length → w.cell? ⟨b, off + j, none⟩ = some (.int k (zs.getD j 0)))

theorem SlIs.below {k : IntKind} {w w' : World} {v : Value} {nl : Bool} {zs : List Int} (h : SlIs k w v nl zs) (hb : Below w.heap.size w w') : SlIs k w' v nl zs := by
  rcases h with h | ⟨h1, h2, b, off, cap, h3, h4, h5⟩
  · exact .inl h
  · exact .inr ⟨h1, h2, b, off, cap, h3, Nat.lt_of_lt_of_le h4 hb.size, fun j hj => (hb.cell (p := ⟨b, off + j, none⟩) h4).trans (h5 j hj)⟩

theorem SlIs.later {k : IntKind} {B : Nat} {w w' : World} {v : Value} {nl : Bool} {zs : List Int} (h : SlIs k w v nl zs) (hb : Below B w w') (hB : w.heap.size ≤ B) : SlIs k w' v nl zs :=
  h.below (hb.mono hB)

/-- What was made by 'make' and filled: the row that a value owns. -/
theorem SlIs.of_own {k : IntKind} {w : World} {base e g n cap : Nat} {zs : List Int} {L : List Value} (h : w.ownsRow base e 1 (.slice (some ⟨g, 0, none⟩) n cap) n L) (hn : n = zs.length)
    (hL : ∀ j, j < n → L[j]? = some (.int k (zs.getD j 0))) : SlIs k w (.slice (some ⟨g, 0, none⟩) n cap) false zs := by
  subst hn
  by_cases hz : zs = []
  · subst hz; exact .inl ⟨rfl, _, _, rfl, rfl⟩
  · refine .inr ⟨hz, rfl, g, 0, cap, rfl, ?_, fun j hj => ?_⟩
    · rcases h.2 with ⟨h', _⟩ | ⟨g', cap', cur, h', _, hg, _⟩
      · simp at h'
      · simp only [Value.slice.injEq, Option.some.injEq, Addr.mk.injEq, and_true, true_and] at h'
        obtain ⟨rfl, rfl⟩ := h'
        exact (Array.getElem?_eq_some_iff.1 hg).1
    · rw [show 0 + j = j from Nat.zero_add j, h.cellAt j (by omega), hL j hj]

theorem below_drewN {B : Nat} {a w : World} (h : Below B a w) (n : Nat) : Below B a (w.drewN n) := ⟨h.os, h.tape, h.output, h.size, h.block⟩

end Go.Proofs.Qxb6614197a
