import Derived.Test.Qxb6614197aPlain
namespace Go.Proofs.Qxb6614197a
open Go.RowKit

/-- How often x stands among the first k. -/
def cnt (x : Int) (zs : List Int) (k : Nat) : Nat := ((zs.take k).filter (fun z => z == x)).length
theorem cnt_le (x : Int) (zs : List Int) (k : Nat) : cnt x zs k ≤ k :=
  Nat.le_trans (List.length_filter_le _ _) (List.length_take_le _ _)
theorem cnt_succ (x : Int) (zs : List Int) (k : Nat) (hk : k < zs.length) : cnt x zs (k + 1) = cnt x zs k + (if (zs.getD k 0 == x) = true then 1 else 0) := by
  unfold cnt
  rw [List.take_succ_eq_append_getElem hk, List.filter_append, List.length_append]
  have : zs.getD k 0 = zs[k] := by simp [hk]
  rw [this, List.filter_cons]
  split <;> rfl
theorem cnt_hit (x : Int) (zs : List Int) (k : Nat) (hk : k < zs.length) {u : Int} (hu : u = zs.getD k 0) (h : (u == x) = true) : cnt x zs (k + 1) = cnt x zs k + 1 := by
  rw [cnt_succ x zs k hk, ← hu, if_pos h]
theorem cnt_miss (x : Int) (zs : List Int) (k : Nat) (hk : k < zs.length) {u : Int} (hu : u = zs.getD k 0) (h : (u == x) = false) : cnt x zs (k + 1) = cnt x zs k := by
  rw [cnt_succ x zs k hk, ← hu, if_neg (by simp [h])]
  rfl
theorem cnt_all (x : Int) (zs : List Int) : (keep1 x zs).length + cnt x zs zs.length = zs.length := by
  unfold keep1 cnt
  rw [List.take_length, Nat.add_comm]
  induction zs with
  | nil => rfl
  | cons z r ih =>
    rw [List.filter_cons, List.filter_cons]
    cases h : z == x
    · simp; omega
    · simp; omega

theorem getD_eq {zs : List Int} {k : Nat} (hk : k < zs.length) : zs.getD k 0 = zs[k] := by simp [hk]

theorem drop_cons (zs : List Int) (j : Nat) (hj : j < zs.length) : zs.drop j = zs.getD j 0 :: zs.drop (j + 1) := by
  rw [getD_eq hj]; exact List.drop_eq_getElem_cons hj

/-- The two places: what is left of in0 from j on gives what is left of the kept ones from i on. -/
def At (x : Int) (zs ks : List Int) (i j : Nat) : Prop := keep1 x (zs.drop j) = ks.drop i
theorem At.start (x : Int) (zs : List Int) : At x zs (keep1 x zs) 0 0 := rfl
theorem At.lt {x : Int} {zs ks : List Int} {i j : Nat} (h : At x zs ks i j) (hi : i < ks.length) : j < zs.length := by
  apply Classical.byContradiction
  intro hj
  unfold At at h
  rw [List.drop_eq_nil_of_le (by omega)] at h
  have := congrArg List.length h
  simp [keep1] at this
  omega
theorem At.skip {x : Int} {zs ks : List Int} {i j : Nat} (h : At x zs ks i j) (hi : i < ks.length) {u z : Int} (hu : u = ks.getD i 0) (hz : z = zs.getD j 0) (hne : (z != u) = true) : At x zs ks i (j + 1) := by
  have hj := h.lt hi
  unfold At at h ⊢
  rw [drop_cons zs j hj, ← hz] at h
  unfold keep1 at h ⊢
  rw [List.filter_cons] at h
  by_cases e : z = x
  · subst e; simpa using h
  · rw [if_pos (by simp [e]), drop_cons ks i hi, ← hu] at h
    have := (List.cons.inj h).1
    simp [this] at hne
theorem At.step {x : Int} {zs ks : List Int} {i j : Nat} (h : At x zs ks i j) (hi : i < ks.length) {u z : Int} (hu : u = ks.getD i 0) (hz : z = zs.getD j 0) (heq : (z != u) = false) (hux : (u == x) = false) : At x zs ks (i + 1) (j + 1) := by
  have hj := h.lt hi
  have hzu : z = u := by simpa using heq
  unfold At at h ⊢
  rw [drop_cons zs j hj, ← hz, hzu] at h
  unfold keep1 at h ⊢
  rw [List.filter_cons, hux] at h
  rw [drop_cons ks i hi, ← hu] at h
  exact (List.cons.inj h).2

theorem keep1_ne (x : Int) (zs : List Int) (i : Nat) (hi : i < (keep1 x zs).length) {u : Int} (hu : u = (keep1 x zs).getD i 0) : (u == x) = false := by
  rw [getD_eq hi] at hu
  have : u ∈ keep1 x zs := by rw [hu]; exact List.getElem_mem _
  unfold keep1 at this
  have := (List.mem_filter.1 this).2
  simpa using this

theorem keep1_keep1_self (x : Int) (zs : List Int) : keep1 x (keep1 x zs) = keep1 x zs := by
  unfold keep1; rw [List.filter_filter]; congr 1; funext z; simp

/-- Ascending, as the first loop asks it. -/
def Asc (zs : List Int) (k : Nat) : Prop := ∀ i, i + 1 < k → zs.getD i 0 ≤ zs.getD (i + 1) 0
theorem Asc.le {zs : List Int} (h : Asc zs zs.length) : ∀ (d i : Nat), i + d < zs.length → zs.getD i 0 ≤ zs.getD (i + d) 0
  | 0, i, _ => Int.le_refl _
  | d + 1, i, hd => Int.le_trans (Asc.le h d i (by omega)) (by have := h (i + d) (by omega); exact this)
theorem Asc.keep {zs : List Int} (h : Asc zs zs.length) (x : Int) : Asc (keep1 x zs) (keep1 x zs).length := by
  have hp : zs.Pairwise (· ≤ ·) := by
    rw [List.pairwise_iff_getElem]
    intro i j hi hj hij
    have := h.le (j - i) i (by omega)
    rw [show i + (j - i) = j from by omega, getD_eq hi, getD_eq hj] at this
    exact this
  have hq : (keep1 x zs).Pairwise (· ≤ ·) := hp.filter _
  intro i hi
  rw [List.pairwise_iff_getElem] at hq
  rw [getD_eq (by omega : i < (keep1 x zs).length), getD_eq hi]
  exact hq i (i + 1) (by omega) hi (by omega)
theorem Asc.next {zs : List Int} {k : Nat} (h : Asc zs (k + 1)) {u v : Int} (hu : u = zs.getD k 0) (hv : v = zs.getD (k + 1) 0) (hle : u ≤ v) : Asc zs (k + 1 + 1) := by
  intro i hi
  by_cases e : i = k
  · subst e; rw [← hu, ← hv]; exact hle
  · exact h i (by omega)

theorem SlIs.form2 {k : IntKind} {w : World} {v : Value} {nl : Bool} {zs : List Int} (h : SlIs k w v nl zs) : ∃ a c, v = .slice a zs.length c ∧ a.isNone = nl := by
  rcases h with ⟨rfl, a, cap, rfl, rfl⟩ | ⟨hz, rfl, b, off, cap, rfl, hb, hc⟩
  · exact ⟨_, _, rfl, rfl⟩
  · exact ⟨_, _, rfl, rfl⟩
theorem SlIs.at {k : IntKind} {w : World} {a : Option Addr} {n c : Nat} {nl : Bool} {zs : List Int} (h : SlIs k w (.slice a n c) nl zs) (hn : 0 < n) : ∃ b off, a = some ⟨b, off, none⟩ ∧ n = zs.length ∧ ∀ j, j < n → w.cell? ⟨b, off + j, none⟩ = some (.int k (zs.getD j 0)) := by
  rcases h with ⟨rfl, a', cap, hv, rfl⟩ | ⟨hz, rfl, b, off, cap, hv, hb, hc⟩
  · simp only [Value.slice.injEq] at hv; omega
  · simp only [Value.slice.injEq] at hv
    obtain ⟨rfl, rfl, rfl⟩ := hv
    exact ⟨b, off, rfl, rfl, hc⟩

end Go.Proofs.Qxb6614197a
