import Derived.Test.Qxb6614197aOrd
namespace Go.Proofs.Qxb6614197a
open Go.RowKit

/-- The elements that are neither x nor y. -/
def keep2 (x y : Int) (zs : List Int) : List Int := zs.filter (fun z => z != x && z != y)
def kept (x y : Int) (zs : List Int) (k : Nat) : List Int := keep2 x y (zs.take k)
theorem kept_le (x y : Int) (zs : List Int) (k : Nat) : (kept x y zs k).length ≤ k := by
  unfold kept keep2
  exact Nat.le_trans (List.length_filter_le _ _) (List.length_take_le _ _)
theorem kept_succ (x y : Int) (zs : List Int) (k : Nat) (hk : k < zs.length) : kept x y zs (k + 1) = kept x y zs k ++ (if (zs.getD k 0 != x && zs.getD k 0 != y) = true then [zs.getD k 0] else []) := by
  unfold kept keep2
  rw [List.take_succ_eq_append_getElem hk, List.filter_append]
  have : zs.getD k 0 = zs[k] := by simp [hk]
  rw [this, List.filter_cons]
  rfl
theorem kept_hit (x y : Int) (zs : List Int) (k : Nat) (hk : k < zs.length) {u : Int} (hu : u = zs.getD k 0) (h1 : (u != x) = true) (h2 : (u != y) = true) : kept x y zs (k + 1) = kept x y zs k ++ [u] := by
  rw [kept_succ x y zs k hk, ← hu, h1, h2]; rfl
theorem kept_len (x y : Int) (zs : List Int) (k : Nat) (hk : k < zs.length) {u : Int} (hu : u = zs.getD k 0) (h1 : (u != x) = true) (h2 : (u != y) = true) : (kept x y zs (k + 1)).length = (kept x y zs k).length + 1 := by
  rw [kept_hit x y zs k hk hu h1 h2]; simp
theorem kept_miss (x y : Int) (zs : List Int) (k : Nat) (hk : k < zs.length) {u : Int} (hu : u = zs.getD k 0) (h : (u != x) = false ∨ (u != y) = false) : kept x y zs (k + 1) = kept x y zs k := by
  rw [kept_succ x y zs k hk, ← hu]
  rcases h with h | h <;> simp [h]

theorem own_lt {w : World} {base e g n cap : Nat} {L : List Value} (h : w.ownsRow base e 1 (.slice (some ⟨g, 0, none⟩) n cap) n L) : g < w.heap.size := by
  rcases h.2 with ⟨h', _⟩ | ⟨g', cap', cur, h', _, hg, _⟩
  · simp at h'
  · simp only [Value.slice.injEq, Option.some.injEq, Addr.mk.injEq, and_true, true_and] at h'
    obtain ⟨rfl, rfl⟩ := h'
    exact (Array.getElem?_eq_some_iff.1 hg).1

theorem own_hit {w1 : World} {B n x y : _} {zs : List Int} {k : Nat} {u : Int} (hk : k < zs.length) (hu : u = zs.getD k 0) (h1 : (u != x) = true) (h2 : (u != y) = true)
    (h : w1.ownsRow B 3 1 (.slice (some ⟨B, 0, none⟩) ((kept x y zs k).length + 1) n) ((kept x y zs k).length + 1) ((kept x y zs k).map (Value.int .i64) ++ [.int .i64 u])) :
    w1.ownsRow B 3 1 (.slice (some ⟨B, 0, none⟩) (kept x y zs (k + 1)).length n) (kept x y zs (k + 1)).length ((kept x y zs (k + 1)).map (Value.int .i64)) := by
  rw [kept_hit x y zs k hk hu h1 h2, List.length_append, List.map_append]; exact h

set_option maxHeartbeats 1600000 in
theorem drop12_row (b off cap n : Nat) (zs : List Int) (x y : Int) (w : World) (hn : n = zs.length) (hpos : 0 < n) (hbig : n ≤ 1048576) (hb : b < w.heap.size)
    (hc : ∀ j, j < n → w.cell? ⟨b, off + j, none⟩ = some (.int .i64 (zs.getD j 0))) :
    Calls Try.prog 12 #[.slice (some ⟨b, off, none⟩) n cap, .int .i64 x, .int .i64 y] w fun e w' => ∃ v nl, e = .returned v ∧ SlIs .i64 w' v nl (kept x y zs n) ∧ Below w.heap.size w w' := by
  obtain ⟨i0, hi, hz0, hz1, hz2⟩ := info_parts Try.info3
  have HN : Hid (n = zs.length) := hn
  clear hn
  have hb2 : i0.bytes * n ≤ 281474976710656 := by rw [hz2]; omega
  have HC : Hid (∀ j, j < n → w.cell? ⟨b, off + j, none⟩ = some (.int .i64 (zs.getD j 0))) := hc
  clear hc
  go_enter Try.func12, Try.ntmps12
  go_wp2_with (at_make; refine wpList_make_own _ rfl _ _ 23 rfl w.heap.size 3 i0 (.int .i64 0) 1 Try.underlying23 hi hz0 hz1 _ _ _ n rfl rfl rfl hb2 (by unfold maxLen; omega) (Nat.le_refl _) ?_; intro w1 hown hgrow)
  have hB1 : Below w.heap.size w w1 := (Below.refl _ _).grown hgrow (Nat.le_refl _) (fun k hk => by cases hk)
  have hs1 : w.heap.size < w1.heap.size := own_lt hown
  clear hgrow
  go_loopw [7, 8] (fun s i wr => ∃ (k : Nat), k ≤ n ∧ i = .int .i64 k ∧ s = .slice (some ⟨w.heap.size, 0, none⟩) (kept x y zs k).length n ∧ wr.ownsRow w.heap.size 3 1 (.slice (some ⟨w.heap.size, 0, none⟩) (kept x y zs k).length n) (kept x y zs k).length ((kept x y zs k).map (Value.int .i64)) ∧ Below w.heap.size w wr ∧ w.heap.size < wr.heap.size) (fun _ i _ => n - (intOf i).toNat)
  case atStart => exact ⟨0, Nat.zero_le _, rfl, rfl, hown, hB1, hs1⟩
  case round =>
    obtain ⟨k, hk, rfl, rfl, hown, hB, hsz⟩ := hrel
    have hkl := kept_le x y zs k
    by_cases hlt : k < n
    · have hcell : wr.cell? ⟨b, off + k, none⟩ = some (.int .i64 (zs.getD k 0)) := (hB.cell (p := ⟨b, off + k, none⟩) hb).trans (HC.out k hlt)
      obtain ⟨u, hu⟩ : ∃ u, u = zs.getD k 0 := ⟨_, rfl⟩
      rw [← hu] at hcell
      have HU : Hid (u = zs.getD k 0) := hu
      clear hu
      have hk1 : k + 1 ≤ n := hlt
      have hkz : k < zs.length := by have := HN.out; omega
      by_cases hx : (u != x) = true
      · by_cases hy : (u != y) = true
        · go_wp2_with (at_builtin; refine wpList_append_fits _ rfl (.tmp 32) (.tmp 37) 23 rfl w.heap.size 3 i0 1 Try.underlying23 hi hz1 w.heap.size (kept x y zs k).length n _ rfl (hown.alloc _) ⟨wr.heap.size, 0, none⟩ 1 1 [.int .i64 u] rfl rfl (cell_one_new _ _ _) (by intro u hu; simp at hu; subst hu; rfl) (by omega) ?_; intro w2 hown2 hgrow2)
          have HO2 : Hid _ := own_hit hkz HU.out hx hy hown2
          have HB2 : Hid (Below w.heap.size w w2) := (hB.alloc hB.size _).grown hgrow2 (by simp; omega) (fun j hj => by cases hj; exact Nat.le_refl _)
          have hs2 : w.heap.size < w2.heap.size := by have := hgrow2.size; simp at this; omega
          have HL : Hid ((kept x y zs (k + 1)).length = (kept x y zs k).length + 1) := kept_len x y zs k hkz HU.out hx hy
          clear hown hown2 hgrow2
          go_wp2
          go_roundw
          case rel => exact ⟨k + 1, hk1, by go_num, by rw [HL.out], HO2.out, HB2.out, hs2⟩
          case measure => simp [intOf]; omega
        · have hy' : (u != y) = false := by simpa using hy
          have HL : Hid (kept x y zs (k + 1) = kept x y zs k) := kept_miss x y zs k hkz HU.out (.inr hy')
          have HO : Hid (wr.ownsRow w.heap.size 3 1 (.slice (some ⟨w.heap.size, 0, none⟩) (kept x y zs k).length n) (kept x y zs k).length ((kept x y zs k).map (Value.int .i64))) := hown
          clear hown hy
          go_wp2
          go_roundw
          case rel => exact ⟨k + 1, hk1, by go_num, by rw [HL.out], by rw [HL.out]; exact HO.out, hB, hsz⟩
          case measure => simp [intOf]; omega
      · have hx' : (u != x) = false := by simpa using hx
        have HL : Hid (kept x y zs (k + 1) = kept x y zs k) := kept_miss x y zs k hkz HU.out (.inl hx')
        have HO : Hid (wr.ownsRow w.heap.size 3 1 (.slice (some ⟨w.heap.size, 0, none⟩) (kept x y zs k).length n) (kept x y zs k).length ((kept x y zs k).map (Value.int .i64))) := hown
        clear hown hx
        go_wp2
        go_roundw
        case rel => exact ⟨k + 1, hk1, by go_num, by rw [HL.out], by rw [HL.out]; exact HO.out, hB, hsz⟩
        case measure => simp [intOf]; omega
    · have hkn : k = n := by omega
      subst hkn
      have HS : Hid (SlIs .i64 wr (.slice (some ⟨w.heap.size, 0, none⟩) (kept x y zs k).length k) false (kept x y zs k)) := SlIs.of_own hown rfl (fun j hj => by simp [hj])
      have HB : Hid (Below w.heap.size w wr) := hB
      clear hB hown
      go_wp2
      go_ret
      exact ⟨_, false, rfl, HS.out, HB.out⟩

set_option maxHeartbeats 800000 in
theorem drop12_empty (a : Option Addr) (cap : Nat) (x y : Int) (w : World) :
    Calls Try.prog 12 #[.slice a 0 cap, .int .i64 x, .int .i64 y] w fun e w' => ∃ v nl, e = .returned v ∧ SlIs .i64 w' v nl [] ∧ Below w.heap.size w w' := by
  obtain ⟨i0, hi, hz0, hz1, hz2⟩ := info_parts Try.info3
  go_enter Try.func12, Try.ntmps12
  go_wp2_with (at_make; refine wpList_make_own _ rfl _ _ 23 rfl w.heap.size 3 i0 (.int .i64 0) 1 Try.underlying23 hi hz0 hz1 _ _ _ 0 rfl rfl rfl (by omega) (by unfold maxLen; omega) (Nat.le_refl _) ?_; intro w1 hown hgrow)
  have hB1 : Below w.heap.size w w1 := (Below.refl _ _).grown hgrow (Nat.le_refl _) (fun k hk => by cases hk)
  clear hown hgrow
  refine wp_loop_rounds 1 ?_
  rw [rounds_succ]
  go_wp2
  go_ret
  exact ⟨_, _, rfl, .inl ⟨rfl, _, _, rfl, rfl⟩, hB1⟩

/-- THE CONTRACT OF zzDropBoth. -/
theorem drop12 (v : Value) (nl : Bool) (zs : List Int) (x y : Int) (w : World) (h : SlIs .i64 w v nl zs) (hbig : zs.length ≤ 1048576) :
    Calls Try.prog 12 #[v, .int .i64 x, .int .i64 y] w fun e w' => ∃ v' nl', e = .returned v' ∧ SlIs .i64 w' v' nl' (keep2 x y zs) ∧ Below w.heap.size w w' := by
  rcases h with ⟨rfl, a, cap, rfl, rfl⟩ | ⟨hz, rfl, b, off, cap, rfl, hb, hc⟩
  · exact drop12_empty a cap x y w
  · have := drop12_row b off cap zs.length zs x y w rfl (List.length_pos_iff.2 hz) hbig hb hc
    unfold kept at this
    rwa [List.take_length] at this

end Go.Proofs.Qxb6614197a
