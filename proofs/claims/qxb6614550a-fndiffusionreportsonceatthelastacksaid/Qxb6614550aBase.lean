/-
  Seat b6614550a: the words of the contracts. 'Dif w Z D V R ..': the diffusion behind the pointer to block Z.
-/
import Derived.Test.Qxb6614550aRows
import Derived.WalkKit
import Derived.WalkSpells
import Derived.WalkLawsBesides
import Derived.Laws.EntriesVeiled
import Derived.Deep.QuietTactic
import Derived.Deep.RegionWith
import Derived.BigQuiet
namespace Go.Proofs.Qxb6614550a
open Go.RowKit

def ackF (V : Nat) : Value := .func (.func 16) #[] #[.pointer (some ⟨V, 0, none⟩)]
def endF (V : Nat) : Value := .func (.func 17) #[] #[.pointer (some ⟨V, 0, none⟩)]
def endV (V : Nat) (b : Bool) : Value := if b = true then endF V else .nilFunc

/-- Block Z: the ZZDiffusion; D: the diffusion; V: the captured variable rec; R: the record. -/
structure Dif (w : World) (Z D V R : Nat) (endSet eng : Bool) (par : ByteArray) (pend : Int) (dbt : Bool) (acks : Int) (to : ByteArray) (unk eng' : Bool) (ends : Int) (eu : Bool) : Prop where
  bZ : w.heap[Z]? = some (.cells #[.pointer (some ⟨D, 0, none⟩), .pointer (some ⟨R, 0, none⟩)] 51 (0, 0))
  bD : w.heap[D]? = some (.cells #[ackF V, endV V endSet, .bool eng, .string par, .int .i64 pend, .bool dbt] 49 (0, 0))
  bV : w.heap[V]? = some (.cells #[.pointer (some ⟨R, 0, none⟩)] 42 (0, 0))
  bR : w.heap[R]? = some (.cells #[.int .i64 acks, .string to, .bool unk, .bool eng', .int .i64 ends, .bool eu] 44 (0, 0))

/-- Only the blocks D and R have turned; none has come. -/
structure Moved (D R : Nat) (w w' : World) : Prop where
  os : w'.os = w.os
  tape : w'.tape = w.tape
  output : w'.output = w.output
  size : w'.heap.size = w.heap.size
  block : ∀ k, k ≠ D → k ≠ R → w'.heap[k]? = w.heap[k]?

theorem Moved.refl (D R : Nat) (w : World) : Moved D R w w := ⟨rfl, rfl, rfl, rfl, fun _ _ _ => rfl⟩
theorem Moved.trans {D R : Nat} {a b c : World} (h : Moved D R a b) (k : Moved D R b c) : Moved D R a c :=
  ⟨k.os.trans h.os, k.tape.trans h.tape, k.output.trans h.output, k.size.trans h.size, fun i h1 h2 => (k.block i h1 h2).trans (h.block i h1 h2)⟩
theorem Moved.setD {D R : Nat} {a w : World} (h : Moved D R a w) (j : Nat) (v : Value) : Moved D R a (w.setCell ⟨D, j, none⟩ v) :=
  h.trans ⟨rfl, rfl, rfl, by simp [World.setCell], fun k h1 _ => Below.heap_setCell _ _ _ _ h1⟩
theorem Moved.setR {D R : Nat} {a w : World} (h : Moved D R a w) (j : Nat) (v : Value) : Moved D R a (w.setCell ⟨R, j, none⟩ v) :=
  h.trans ⟨rfl, rfl, rfl, by simp [World.setCell], fun k _ h2 => Below.heap_setCell _ _ _ _ h2⟩
theorem Moved.drew {D R : Nat} {a w : World} (h : Moved D R a w) : Moved D R a w.drew := ⟨h.os, h.tape, h.output, h.size, h.block⟩
theorem Moved.below {D R B : Nat} {w w' : World} (h : Moved D R w w') (hD : B ≤ D) (hR : B ≤ R) : Below B w w' :=
  ⟨h.os, h.tape, h.output, Nat.le_of_eq h.size.symm, fun k hk => h.block k (by omega) (by omega)⟩

theorem below_drewN {B : Nat} {a w : World} (h : Below B a w) (n : Nat) : Below B a (w.drewN n) := ⟨h.os, h.tape, h.output, h.size, h.block⟩

theorem lt_of_blk {w : World} {g : Nat} {o : Obj} (h : w.heap[g]? = some o) : g < w.heap.size := (Array.getElem?_eq_some_iff.1 h).1

section
variable {w : World} {Z D V R : Nat} {es eng : Bool} {par : ByteArray} {pend : Int} {dbt : Bool} {acks : Int} {to : ByteArray} {unk eng' : Bool} {ends : Int} {eu : Bool}

theorem Dif.ZD (h : Dif w Z D V R es eng par pend dbt acks to unk eng' ends eu) : Z ≠ D := fun e => by have a := h.bZ; rw [e, h.bD] at a; simp at a
theorem Dif.ZR (h : Dif w Z D V R es eng par pend dbt acks to unk eng' ends eu) : Z ≠ R := fun e => by have a := h.bZ; rw [e, h.bR] at a; simp at a
theorem Dif.VD (h : Dif w Z D V R es eng par pend dbt acks to unk eng' ends eu) : V ≠ D := fun e => by have a := h.bV; rw [e, h.bD] at a; simp at a
theorem Dif.VR (h : Dif w Z D V R es eng par pend dbt acks to unk eng' ends eu) : V ≠ R := fun e => by have a := h.bV; rw [e, h.bR] at a; simp at a
theorem Dif.DR (h : Dif w Z D V R es eng par pend dbt acks to unk eng' ends eu) : D ≠ R := fun e => by have a := h.bD; rw [e, h.bR] at a; simp at a
theorem Dif.ZV (h : Dif w Z D V R es eng par pend dbt acks to unk eng' ends eu) : Z ≠ V := fun e => by have a := h.bZ; rw [e, h.bV] at a; simp at a

/-- A diffusion is as it was where its four blocks are. -/
theorem Dif.same {w' : World} (h : Dif w Z D V R es eng par pend dbt acks to unk eng' ends eu) (hs : ∀ k, k = Z ∨ k = D ∨ k = V ∨ k = R → w'.heap[k]? = w.heap[k]?) : Dif w' Z D V R es eng par pend dbt acks to unk eng' ends eu :=
  ⟨(hs Z (.inl rfl)).trans h.bZ, (hs D (.inr (.inl rfl))).trans h.bD, (hs V (.inr (.inr (.inl rfl)))).trans h.bV, (hs R (.inr (.inr (.inr rfl)))).trans h.bR⟩
theorem Dif.below {w' : World} (h : Dif w Z D V R es eng par pend dbt acks to unk eng' ends eu) (hb : Below w.heap.size w w') : Dif w' Z D V R es eng par pend dbt acks to unk eng' ends eu :=
  h.same fun k hk => hb.block k (by
    have := lt_of_blk h.bZ; have := lt_of_blk h.bD; have := lt_of_blk h.bV; have := lt_of_blk h.bR
    omega)
end

theorem four1 (w : World) (o1 o2 o3 o4 : Obj) : ((((w.alloc o1).alloc o2).alloc o3).alloc o4).heap[w.heap.size]? = some o1 := by
  rw [Below.heap_alloc _ _ _ (by simp; omega), Below.heap_alloc _ _ _ (by simp; omega), Below.heap_alloc _ _ _ (by simp), heap_alloc_new]
theorem four2 (w : World) (o1 o2 o3 o4 : Obj) : ((((w.alloc o1).alloc o2).alloc o3).alloc o4).heap[w.heap.size + 1]? = some o2 := by
  have := four1 (w.alloc o1) o2 o3 o4 o4
  rw [show (w.alloc o1).heap.size = w.heap.size + 1 from by simp] at this
  rw [Below.heap_alloc _ _ _ (by simp)] at this
  exact this
theorem four3 (w : World) (o1 o2 o3 o4 : Obj) : ((((w.alloc o1).alloc o2).alloc o3).alloc o4).heap[w.heap.size + 1 + 1]? = some o3 := by
  have h : ((w.alloc o1).alloc o2).heap.size = w.heap.size + 1 + 1 := by simp
  rw [Below.heap_alloc _ _ _ (by simp), ← h, heap_alloc_new]
theorem four4 (w : World) (o1 o2 o3 o4 : Obj) : ((((w.alloc o1).alloc o2).alloc o3).alloc o4).heap[w.heap.size + 1 + 1 + 1]? = some o4 := by
  have h : (((w.alloc o1).alloc o2).alloc o3).heap.size = w.heap.size + 1 + 1 + 1 := by simp
  rw [← h, heap_alloc_new]

set_option maxHeartbeats 800000 in
theorem new7 (root eng : Bool) (par : ByteArray) (pend : Int) (dbt : Bool) (w : World) :
    Calls Try.prog 7 #[.bool root, .bool eng, .string par, .int .i64 pend, .bool dbt] w fun e w' => ∃ Z D V R, e = .returned (.pointer (some ⟨Z, 0, none⟩)) ∧ w.heap.size ≤ Z ∧ w.heap.size ≤ D ∧ w.heap.size ≤ V ∧ w.heap.size ≤ R ∧ Dif w' Z D V R root eng par pend dbt 0 ByteArray.empty false false 0 false ∧ Below w.heap.size w w' := by
  have hmf : ∀ (fn : Fn) (first cap : Array Value) (w : World), (Instr.makeFunc fn first cap).run Try.prog w = .ok (.func fn first cap) w := fun _ _ _ _ => rfl
  cases root
  all_goals
    go_enter Try.func7, Try.ntmps7
    go_wp2
    go_ret
    exact ⟨w.heap.size + 1 + 1 + 1, w.heap.size + 1 + 1, w.heap.size + 1, w.heap.size, rfl, by omega, by omega, by omega, by omega, ⟨four4 _ _ _ _ _, four3 _ _ _ _ _, four2 _ _ _ _ _, four1 _ _ _ _ _⟩, ((((Below.refl _ _).alloc (Nat.le_refl _) _).alloc (by simp) _).alloc (by simp; omega) _).alloc (by simp; omega) _⟩
end Go.Proofs.Qxb6614550a
