import Derived.Test.Qxb6614403aName
namespace Go.Proofs.Qxb6614403a
open Go.RowKit

theorem bytes8 (s : ByteArray) (w : World) (hs : s.size ≤ 1048576) : Calls Try.prog 8 #[.string s] w fun e w' => e = .returned (.bool true) ∧ w' = w := by
  go_enter Try.func8, Try.ntmps8
  go_wp2
  go_ret
  exact ⟨rfl, rfl⟩
theorem bytes8_no (s : ByteArray) (w : World) (hm : s.size ≤ 9223372036854775807) (hs : 1048576 < s.size) : Calls Try.prog 8 #[.string s] w fun e w' => e = .returned (.bool false) ∧ w' = w := by
  go_enter Try.func8, Try.ntmps8
  go_wp2
  go_ret
  exact ⟨rfl, rfl⟩
theorem head10 (w : World) : Calls Try.prog 10 #[.int .i64 2, .int .i64 1, .bool false, .slice none 0 0] w fun e w' => e = .returned (.bool true) ∧ w' = w := by
  have q27 : ∀ (w : World) (a : Option Addr) (n c n' c' : Nat), (binOp .eql 27 (.slice a n c) (.slice none n' c')).run Try.prog w = .ok (.bool a.isNone) w := fun w a n c n' c' => Lib.run_eql_slice_nil w _ _ a n c n' c' Try.underlying27
  go_enter Try.func10, Try.ntmps10
  go_wp2
  go_ret
  exact ⟨rfl, rfl⟩

/-- Go's ^ on a byte, as the model spells it. -/
def nb (u : Nat) : Int := bits BinOp.xor IntKind.u8 (if IntKind.u8.signed = true then -1 else IntKind.u8.max) (u : Int)

/-- What the law holds of its answers: two blocks of struct R1, R2 and two of bytes B1, B2. -/
structure Inv (s : ByteArray) (w wr : World) (R B cap k : Nat) : Prop where
  below : Below w.heap.size w wr
  hR : w.heap.size ≤ R
  hB : w.heap.size ≤ B
  ne : B ≠ R
  ltR : R < wr.heap.size
  ltB : B < wr.heap.size
  field : wr.cell? ⟨R, 3, none⟩ = some (.slice (some ⟨B, 0, none⟩) s.size cap)
  free : ∀ j, j < s.size → wr.frozen? ⟨B, j, none⟩ = false
  done : ∀ j, (h : j < s.size) → j < k → wr.cell? ⟨B, j, none⟩ = some (.int .u8 (nb s[j].toNat))
  todo : ∀ j, (h : j < s.size) → k ≤ j → wr.cell? ⟨B, j, none⟩ = some (.int .u8 (s[j].toNat))

theorem cell_apart (w : World) (B k j : Nat) (v : Value) (h : k ≠ j) : (w.setCell ⟨B, k, none⟩ v).cell? ⟨B, j, none⟩ = w.cell? ⟨B, j, none⟩ := by
  apply World.cell?_setCell_other
  intro e
  exact h (Addr.mk.inj e).2.1

theorem Inv.step {s : ByteArray} {w wr : World} {R B cap k : Nat} (h : Inv s w wr R B cap k) (hk : k < s.size) {u : Nat} (hu : u = s[k].toNat) : Inv s w (wr.setCell ⟨B, k, none⟩ (.int .u8 (nb u))).drew R B cap (k + 1) := {
  below := (h.below.setCell (p := ⟨B, k, none⟩) h.hB _).drew
  hR := h.hR
  hB := h.hB
  ne := h.ne
  ltR := by have := h.ltR; simpa [World.setCell] using this
  ltB := by have := h.ltB; simpa [World.setCell] using this
  field := (World.cell?_of_block (a := ⟨R, 3, none⟩) (Below.heap_setCell wr ⟨B, k, none⟩ _ R (fun e => h.ne e.symm))).trans h.field
  free := fun j hj => by
    have := h.free j hj
    show (wr.setCell ⟨B, k, none⟩ (.int .u8 (nb u))).frozen? ⟨B, j, none⟩ = false
    rw [World.frozen?_setCell]; exact this
  done := fun j hj hlt => by
    show (wr.setCell ⟨B, k, none⟩ (.int .u8 (nb u))).cell? ⟨B, j, none⟩ = _
    by_cases e : j = k
    · subst e
      rw [World.cell?_setCell_same _ _ _ (h.todo j hj (Nat.le_refl _)), hu]
    · rw [cell_apart wr B k j _ (by omega)]
      exact h.done j hj (by omega)
  todo := fun j hj hle => by
    show (wr.setCell ⟨B, k, none⟩ (.int .u8 (nb u))).cell? ⟨B, j, none⟩ = _
    rw [cell_apart wr B k j _ (by omega)]
    exact h.todo j hj (by omega) }

theorem Inv.later {s : ByteArray} {w wr w2 : World} {R B cap k : Nat} (h : Inv s w wr R B cap k) (hb : Below wr.heap.size wr w2) : Inv s w w2 R B cap k := {
  below := h.below.trans (hb.mono h.below.size)
  hR := h.hR
  hB := h.hB
  ne := h.ne
  ltR := Nat.lt_of_lt_of_le h.ltR hb.size
  ltB := Nat.lt_of_lt_of_le h.ltB hb.size
  field := (hb.cell (p := ⟨R, 3, none⟩) h.ltR).trans h.field
  free := fun j hj => (hb.frozen (p := ⟨B, j, none⟩) h.ltB).trans (h.free j hj)
  done := fun j hj hlt => (hb.cell (p := ⟨B, j, none⟩) h.ltB).trans (h.done j hj hlt)
  todo := fun j hj hle => (hb.cell (p := ⟨B, j, none⟩) h.ltB).trans (h.todo j hj hle) }

set_option maxHeartbeats 1600000 in
theorem main4 (s : ByteArray) (w : World) (hs : s.size ≤ 1048576) :
    Calls Try.prog 4 #[.string s] w fun e w' => e = .returned (.bool true) ∧ Below w.heap.size w w' := by
  go_enter Try.func4, Try.ntmps4
  go_wp2_with fail
  refine (bytes8 s w hs).mono ?_
  rintro e w' ⟨rfl, hw⟩
  replace hw := hw.symm
  subst hw
  go_wp2_with fail
  refine (name9 s _).mono ?_
  rintro e w1 ⟨B1, cap1, rfl, hB1, hB1', hbel, hc, hf⟩
  have hI0 : Inv s w (w1.alloc (.cells #[.int .i64 2, .int .i64 1, .bool false, .slice (some ⟨B1, 0, none⟩) s.size cap1, .slice none 0 0] 36)) w1.heap.size B1 cap1 0 := {
    below := hbel.alloc hbel.size _
    hR := hbel.size
    hB := hB1
    ne := by omega
    ltR := by simp
    ltB := by simp; omega
    field := by rw [World.cell?_alloc_at _ _ _ _ rfl]; rfl
    free := fun j hj => by rw [World.frozen?_alloc_old _ _ _ (by show B1 ≠ w1.heap.size; omega)]; exact hf j hj
    done := fun j h h0 => absurd h0 (Nat.not_lt_zero _)
    todo := fun j h _ => by rw [World.cell?_alloc_past _ _ _ hB1']; exact hc j h }
  clear hbel hc hf
  go_wp2_with fail
  go_loopw [4] (fun i wr => ∃ k : Nat, k ≤ s.size ∧ i = .int .i64 k ∧ Inv s w wr w1.heap.size B1 cap1 k) (fun i _ => s.size - (intOf i).toNat)
  case atStart => exact ⟨0, Nat.zero_le _, rfl, hI0⟩
  case round =>
    obtain ⟨k, hk, rfl, hI⟩ := hrel
    have g3 := hI.field
    by_cases hlt : k < s.size
    · have hltz : (k : Int) < (s.size : Int) := by omega
      have gc := hI.todo k hlt (Nat.le_refl _)
      have gf := hI.free k hlt
      have hu1 : s[k].toNat < 256 := s[k].toNat_lt
      obtain ⟨u, hu⟩ : ∃ u : Nat, u = s[k].toNat := ⟨_, rfl⟩
      rw [← hu] at gc hu1
      have HU : Hid (u = s[k].toNat) := hu
      clear hu
      have hne := hI.ne
      clear hI0
      go_wp2
      go_region
      go_wp2
      go_roundw
      case rel => exact ⟨k + 1, hlt, by go_num, hI.step hlt HU.out⟩
      case measure => simp [intOf]; omega
    · obtain rfl : k = s.size := by omega
      have hltz : ¬ (s.size : Int) < (s.size : Int) := by omega
      clear hI0
      go_wp2_with fail
      refine (name9 s _).mono ?_
      rintro e w2 ⟨B2, cap2, rfl, hB2, hB2', hbel, hc, hf⟩
      have hI2 := (hI.later hbel).later ((Below.refl _ _).alloc (Nat.le_refl _) (.cells #[.int .i64 2, .int .i64 1, .bool false, .slice (some ⟨B2, 0, none⟩) s.size cap2, .slice none 0 0] 36))
      have hfl : (w2.alloc (.cells #[.int .i64 2, .int .i64 1, .bool false, .slice (some ⟨B2, 0, none⟩) s.size cap2, .slice none 0 0] 36)).cell? ⟨w1.heap.size, 3, none⟩ = some (.slice (some ⟨B1, 0, none⟩) s.size cap1) := hI2.field
      have hcc : ∀ j, (h : j < s.size) → (w2.alloc (.cells #[.int .i64 2, .int .i64 1, .bool false, .slice (some ⟨B2, 0, none⟩) s.size cap2, .slice none 0 0] 36)).cell? ⟨B2, j, none⟩ = some (.int .u8 (s[j].toNat)) := fun j h => by rw [World.cell?_alloc_past _ _ _ hB2']; exact hc j h
      have HC : Hid (∀ j, (h : j < s.size) → (w2.alloc (.cells #[.int .i64 2, .int .i64 1, .bool false, .slice (some ⟨B2, 0, none⟩) s.size cap2, .slice none 0 0] 36)).cell? ⟨B2, j, none⟩ = some (.int .u8 (s[j].toNat))) := hcc
      clear hc hf hI g3 hcc hbel
      go_wp2_with fail
      refine (head10 _).mono ?_
      rintro e w3 ⟨rfl, hw⟩
      replace hw := hw.symm
      subst hw
      go_wp2_with fail
      have hf2 : (w2.alloc (.cells #[.int .i64 2, .int .i64 1, .bool false, .slice (some ⟨B2, 0, none⟩) s.size cap2, .slice none 0 0] 36)).cell? ⟨w2.heap.size, 3, none⟩ = some (.slice (some ⟨B2, 0, none⟩) s.size cap2) := by rw [World.cell?_alloc_at _ _ _ _ rfl]; rfl
      generalize (w2.alloc (.cells #[.int .i64 2, .int .i64 1, .bool false, .slice (some ⟨B2, 0, none⟩) s.size cap2, .slice none 0 0] 36)) = W3 at hf2 hfl HC hI2 ⊢
      go_loopw [6] (fun i wr => ∃ (k q : Nat), k ≤ s.size ∧ i = .int .i64 k ∧ wr = W3.drewN q) (fun i _ => s.size - (intOf i).toNat)
      case atStart => exact ⟨0, 0, Nat.zero_le _, rfl, rfl⟩
      case round =>
        obtain ⟨k, q, hk2, rfl, hwr⟩ := hrel
        subst hwr
        by_cases hlt2 : k < s.size
        · have hltz2 : (k : Int) < (s.size : Int) := by omega
          have hne : (((s[k].toNat : Nat) : Int) != ((s[k].toNat : Nat) : Int)) = false := by simp
          have gc2 := HC.out k hlt2
          have gc1 := hI2.done k hlt2 hlt2
          unfold nb at gc1
          go_wp2
          go_quiet (fail)
          go_wp2
          go_roundw
          case rel => exact ⟨k + 1, q + nq, hlt2, by go_num, by simp⟩
          case measure => simp [intOf]; omega
        · have hltz2 : ¬ (k : Int) < (s.size : Int) := by omega
          have HB : Hid (Below w.heap.size w W3) := hI2.below
          clear hI2 HC
          go_wp2
          go_ret
          exact ⟨rfl, below_drewN HB.out _⟩
end Go.Proofs.Qxb6614403a
