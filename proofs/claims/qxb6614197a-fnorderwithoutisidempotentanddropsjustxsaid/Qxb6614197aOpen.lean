import Derived.Test.Qxb6614197aPlain
import Derived.OpenShut
namespace Go.Proofs.Qxb6614197a
open Go.RowKit

/-- A slice that came in, in our words. -/
theorem view {k : IntKind} {w : World} {a : Option Addr} {len cap : Nat} {zs : List Int}
    (h : (a = none ∧ len = 0 ∧ cap = 0 ∧ zs = []) ∨ ∃ x, a = some x ∧ len ≤ cap ∧ cap ≤ maxLen ∧ zs.length = cap ∧ (∀ i, i < zs.length → w.cell? (x.add i) = some (.int k (zs.getD i 0))) ∧ ∀ n ∈ zs, (Lit.int k n).wf = true) :
    ∃ nl, SlIs k w (.slice a len cap) nl (zs.take len) ∧ (zs.take len).length = len ∧ len ≤ 9223372036854775807 := by
  rcases h with ⟨rfl, rfl, rfl, rfl⟩ | ⟨x, rfl, hl, hm, hz, hc, _⟩
  · exact ⟨true, .inl ⟨rfl, _, _, rfl, rfl⟩, rfl, by omega⟩
  · unfold maxLen at hm
    have hlen : (zs.take len).length = len := by rw [List.length_take]; omega
    by_cases h0 : len = 0
    · subst h0
      exact ⟨false, .inl ⟨rfl, _, _, rfl, rfl⟩, by simp, by omega⟩
    · obtain ⟨b, off, rfl, hc2⟩ := ints_at hc (by omega)
      refine ⟨false, .inr ⟨fun e => ?_, rfl, b, off, cap, by rw [hlen], ?_, fun j hj => ?_⟩, hlen, by omega⟩
      · rw [e] at hlen; simp at hlen; omega
      · have := hc2 0 (by omega)
        unfold World.cell? at this
        cases hh : w.heap[b]? with
        | none => rw [show w.heap[(⟨b, off + 0, none⟩ : Addr).block]? = none from hh] at this; simp at this
        | some o => exact (Array.getElem?_eq_some_iff.1 hh).1
      · rw [hlen] at hj
        rw [hc2 j (by omega)]
        congr 2
        rw [List.getD_eq_getElem?_getD, List.getD_eq_getElem?_getD, List.getElem?_take, if_pos hj]

end Go.Proofs.Qxb6614197a
