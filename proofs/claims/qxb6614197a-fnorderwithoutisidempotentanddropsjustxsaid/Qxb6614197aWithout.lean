import Derived.Test.Qxb6614197aDel
namespace Go.Proofs.Qxb6614197a
open Go.Shelf Go.RowKit Go.Lib Go.Sort

set_option maxHeartbeats 1600000 in
theorem without17_walk (B : Nat) (x : Int) (a0 a1 a2 a3 : Option Addr) (n0 c0 n1 c1 n2 c2 n3 c3 : Nat) (dead nin : Bool) (inl : List Int) (w : World)
    (hB : w.heap[B]? = some (.cells #[.slice a0 n0 c0, .slice a1 n1 c1, .slice a2 n2 c2, .slice a3 n3 c3, .bool dead] 41 (0, 0))) (hin : SlIs .i64 w (.slice a1 n1 c1) nin inl) (hbig : inl.length ≤ 1048576) :
    Calls Try.prog 17 #[.pointer (some ⟨B, 0, none⟩), .int .i64 x] w fun e w' => ∃ B' v nl, e = .returned (.pointer (some ⟨B', 0, none⟩)) ∧ w'.heap[B']? = some (.cells #[.slice a0 n0 c0, v, .slice a2 n2 c2, .slice a3 n3 c3, .bool false] 41 (0, 0)) ∧ SlIs .i64 w' v nl (keep1 x inl) ∧ Below w.heap.size w w' := by
  have hmf : ∀ (fn : Fn) (first cap : Array Value) (w : World), (Instr.makeFunc fn first cap).run Try.prog w = .ok (.func fn first cap) w := fun _ _ _ _ => rfl
  have hBs : B < w.heap.size := (Array.getElem?_eq_some_iff.1 hB).1
  have g0 : w.cell? ⟨B, 0, none⟩ = some (.slice a0 n0 c0) := by rw [cell_of_row w B 0 _ _ _ hB]; rfl
  have g1 : w.cell? ⟨B, 1, none⟩ = some (.slice a1 n1 c1) := by rw [cell_of_row w B 1 _ _ _ hB]; rfl
  have g2 : w.cell? ⟨B, 2, none⟩ = some (.slice a2 n2 c2) := by rw [cell_of_row w B 2 _ _ _ hB]; rfl
  have g3 : w.cell? ⟨B, 3, none⟩ = some (.slice a3 n3 c3) := by rw [cell_of_row w B 3 _ _ _ hB]; rfl
  clear hB
  have hb1 : Below w.heap.size w (w.alloc (.cells #[.int .i64 x] 3)) := (Below.refl _ _).alloc (Nat.le_refl _) _
  have hsz1 : (w.alloc (.cells #[.int .i64 x] 3)).heap.size = w.heap.size + 1 := by simp
  have hin1 := hin.below hb1
  have hx1 : (w.alloc (.cells #[.int .i64 x] 3)).cell? ⟨w.heap.size, 0, none⟩ = some (.int .i64 x) := by rw [World.cell?_alloc_at _ _ _ _ rfl]; rfl
  have HIN : Hid (SlIs .i64 (w.alloc (.cells #[.int .i64 x] 3)) (.slice a1 n1 c1) nin inl) := hin1
  have HB1 : Hid (Below w.heap.size w (w.alloc (.cells #[.int .i64 x] 3))) := hb1
  have HX1 : Hid ((w.alloc (.cells #[.int .i64 x] 3)).cell? ⟨w.heap.size, 0, none⟩ = some (.int .i64 x)) := hx1
  have HS1 : Hid ((w.alloc (.cells #[.int .i64 x] 3)).heap.size = w.heap.size + 1) := hsz1
  clear hin hin1 hb1 hx1 hsz1
  go_enter Try.func17, Try.ntmps17
  go_wp2_with fail
  refine (clone20 _ nin inl _ HIN.out hbig).mono ?_
  rintro e w2 ⟨hbel, hcase⟩
  have hbelw : Below w.heap.size w w2 := HB1.out.trans (hbel.mono (by have := HS1.out; omega))
  have hsz2 : w.heap.size < w2.heap.size := by have := hbel.size; have := HS1.out; omega
  have hx2 : w2.cell? ⟨w.heap.size, 0, none⟩ = some (.int .i64 x) := (hbel.cell (p := ⟨w.heap.size, 0, none⟩) (by simp)).trans HX1.out
  have hdel : ∀ v, e = .returned v → Calls Try.prog 19 #[v, .func (.func 21) #[] #[.pointer (some ⟨w.heap.size, 0, none⟩)]] w2 fun e w' => ∃ v nl, e = .returned v ∧ SlIs .i64 w' v nl (keep1 x inl) ∧ Below (w.heap.size + 1) w2 w' := by
    intro v hv
    rcases hcase with ⟨rfl, a, cap, he⟩ | ⟨g, cap, he, hg1, hg2, hH, hcap⟩
    · rw [hv] at he; cases he
      refine (del19_empty a cap _ w2).mono ?_
      rintro e w' ⟨rfl, rfl⟩
      exact ⟨_, _, rfl, .inl ⟨rfl, _, _, rfl, rfl⟩, Below.refl _ _⟩
    · rw [hv] at he; cases he
      exact del19_row x w.heap.size g cap (w.heap.size + 1) inl w2 hsz2 (by have := HS1.out; omega) hx2 hg2 (by have := HS1.out; omega) hH hbig hcap
  have hform : ∃ a n c, e = .returned (.slice a n c) := by
    rcases hcase with ⟨rfl, a, cap, he⟩ | ⟨g, cap, he, _⟩
    · exact ⟨_, _, _, he⟩
    · exact ⟨_, _, _, he⟩
  obtain ⟨a, n, c, rfl⟩ := hform
  have hdel2 := hdel _ rfl
  clear hdel hcase HIN hx2
  have HD : Aside (Calls Try.prog 19 #[.slice a n c, .func (.func 21) #[] #[.pointer (some ⟨w.heap.size, 0, none⟩)]] w2 fun e w' => ∃ v nl, e = .returned v ∧ SlIs .i64 w' v nl (keep1 x inl) ∧ Below (w.heap.size + 1) w2 w') := hdel2
  clear hdel2
  go_wp2_with fail
  refine HD.out.mono ?_
  rintro e w3 ⟨v, nl, rfl, hs3, hbel3⟩
  have hB3 : Below w.heap.size w w3 := hbelw.trans (hbel3.mono (by omega))
  obtain ⟨a4, n4, c4, hv, _⟩ := hs3.form
  subst hv
  have r0 := (hB3.cell (p := ⟨B, 0, none⟩) hBs).trans g0
  have r2 := (hB3.cell (p := ⟨B, 2, none⟩) hBs).trans g2
  have r3 := (hB3.cell (p := ⟨B, 3, none⟩) hBs).trans g3
  have HS3 : Hid (SlIs .i64 w3 (.slice a4 n4 c4) nl (keep1 x inl)) := hs3
  have HB3 : Hid (Below w.heap.size w w3) := hB3
  clear hs3 hB3 hbel3 hbelw HD hbel g0 g1 g2 g3
  go_wp2
  go_region
  all_goals (try go_wp2)
  all_goals go_ret
  all_goals exact ⟨w3.heap.size, .slice a4 n4 c4, nl, rfl, heap_alloc_new _ _, HS3.out.below ((Below.refl _ _).alloc (Nat.le_refl _) _).drew, (HB3.out.alloc HB3.out.size _).drew⟩

/-- THE CONTRACT OF (*order).without. -/
theorem without17 (B : Nat) (x : Int) (nst ntk nop dead : Bool) (st inl tk op : List Int) (w : World) (h : OrdIs w B nst st inl ntk tk nop op dead) (hbig : inl.length ≤ 1048576) :
    Calls Try.prog 17 #[.pointer (some ⟨B, 0, none⟩), .int .i64 x] w fun e w' => ∃ B', e = .returned (.pointer (some ⟨B', 0, none⟩)) ∧ OrdIs w' B' nst st (keep1 x inl) ntk tk nop op false ∧ Below w.heap.size w w' := by
  obtain ⟨v, v1, v2, v3, nin, hB, h, h1, h2, h3⟩ := h
  obtain ⟨a0, n0, c0, e0, _⟩ := h.form
  obtain ⟨a1, n1, c1, e1, _⟩ := h1.form
  obtain ⟨a2, n2, c2, e2, _⟩ := h2.form
  obtain ⟨a3, n3, c3, e3, _⟩ := h3.form
  subst e0 e1 e2 e3
  refine (without17_walk B x a0 a1 a2 a3 n0 c0 n1 c1 n2 c2 n3 c3 dead nin inl w hB h1 hbig).mono ?_
  rintro e w' ⟨B', v, nl, rfl, hB', hs, hbel⟩
  exact ⟨B', rfl, ⟨_, _, _, _, nl, hB', h.below hbel, hs, h2.below hbel, h3.below hbel⟩, hbel⟩

set_option maxHeartbeats 400000 in
/-- THE CONTRACT OF ZZOrderWithout. -/
theorem without9 (B : Nat) (x : Int) (nst ntk nop dead : Bool) (st inl tk op : List Int) (w : World) (h : OrdIs w B nst st inl ntk tk nop op dead) (hbig : inl.length ≤ 1048576) :
    Calls Try.prog 9 #[.pointer (some ⟨B, 0, none⟩), .int .i64 x] w fun e w' => ∃ B', e = .returned (.pointer (some ⟨B', 0, none⟩)) ∧ OrdIs w' B' nst st (keep1 x inl) ntk tk nop op false ∧ Below w.heap.size w w' := by
  go_enter Try.func9, Try.ntmps9
  go_wp2_with fail
  refine (without17 B x nst ntk nop dead st inl tk op w h hbig).mono ?_
  rintro e w' ⟨B', rfl, hO, hbel⟩
  go_wp2
  go_ret
  exact ⟨B', rfl, hO, hbel⟩

end Go.Proofs.Qxb6614197a
