/- The shelf's contracts at this program's translation, laid by the kit's own tools (lay-shelf, lay-plain); remarks struck. -/
import Derived.Ground.SlgnProg
import Derived.Shelf.SlicesG.Clone
import Derived.Shelf.SlicesE.Clone
import Derived.Ground.SlgfProg
import Derived.Shelf.SlicesE.IndexFunc
import Derived.Shelf.SlicesE.DeleteFunc
import Derived.Test.Qxb6614197aProg
namespace Go.Proofs
open Go.Shelf
def Try.laysSlN41_f20_ren : Go.Shelf.Ren := ⟨fun | 41 => 20 | n => n, fun | 22 => 23 | 23 => 3 | 4 => 4 | n => n, fun | n => n⟩
theorem Try.laysSlN41_f20 : Go.Proofs.SlLaysN.n41 Try.prog Try.laysSlN41_f20_ren := {
  mixed := by kernel_rfl
  f41 := ⟨Try.f20.name, by decide, Try.func20.trans (congrArg some (by kernel_rfl))⟩
  t4 := Try.underlying4
  a4 := Try.isAgg4
  z4 := Try.sizeOf4
  v4 := Try.zeroValue4
  t22 := Try.underlying23
  a22 := Try.isAgg23
  z22 := Try.sizeOf23
  v22 := Try.zeroValue23
  t23 := Try.underlying3
  a23 := Try.isAgg3
  z23 := Try.sizeOf3
  v23 := Try.zeroValue3
  i23 := by kernel_rfl }
open Go.RowKit Go.Lib in
theorem Try.slices_Clone_int (b off n c : Nat) (zs : List Int) (w : World) (hz : n ≤ zs.length) (hbig : n * 8 ≤ 140737488355328) (hc : ∀ j, j < zs.length → w.cell? ⟨b, off + j, none⟩ = some (.int .i64 (zs.getD j 0))) :
    Calls Try.prog 20 #[.slice (some ⟨b, off, none⟩) n c] w fun e w' => ∃ v', e = .returned v' ∧ w'.ownsRow w.heap.size 3 1 v' n ((zs.take n).map (Value.int .i64)) ∧ v' ≠ .slice none 0 0 ∧ Below w.heap.size w w' := AnyG.slices_Clone_int Try.laysSlN41_f20 b off n c zs w hz hbig hc
open Go.RowKit Go.Lib in
theorem Try.slices_Clone_int_nil (n c : Nat) (w : World) :
    Calls Try.prog 20 #[.slice none n c] w fun e w' => e = .returned (.slice none 0 0) ∧ w' = w := AnyG.slices_Clone_int_nil Try.laysSlN41_f20 n c w
open Go.RowKit Go.Lib in
theorem Try.slices_Clone_int_zero (a : Addr) (c : Nat) (w : World) :
    Calls Try.prog 20 #[.slice (some a) 0 c] w fun e w' => ∃ v', e = .returned v' ∧ w'.ownsRow w.heap.size 3 1 v' 0 [] ∧ v' ≠ .slice none 0 0 ∧ Below w.heap.size w w' := AnyG.slices_Clone_int_zero Try.laysSlN41_f20 a c w
def Try.laysSlE041_f20_ren : Go.Shelf.Ren := ⟨fun | 41 => 20 | n => n, fun | 22 => 23 | 23 => 3 | 4 => 4 | n => n, fun | n => n⟩
theorem Try.laysSlE041_f20 : Go.Proofs.SlLaysE0.n41 Try.prog Try.laysSlE041_f20_ren := {
  mixed := by kernel_rfl
  f41 := ⟨Try.f20.name, by decide, Try.func20.trans (congrArg some (by kernel_rfl))⟩
  t4 := Try.underlying4
  a4 := Try.isAgg4
  z4 := Try.sizeOf4
  v4 := Try.zeroValue4
  t22 := Try.underlying23
  a22 := Try.isAgg23
  z22 := Try.sizeOf23
  v22 := Try.zeroValue23 }
open Go.RowKit Go.Lib in
theorem Try.slices_Clone (i0 : TypeInfo) (z : Value) (size bytes : Nat) (hi : Try.prog.info? 3 = some i0) (hz0 : i0.zero = some z) (hz1 : i0.size = size) (hz2 : i0.bytes = bytes) (hzs : z.cells.size = size) (hsz : 0 < size) (z23 : ∀ w, (Go.sizeOf 3).run Try.prog w = .ok size w) (b off n c : Nat) (news : List Value) (w : World) (hl : news.length = n * size) (hn : n ≤ maxLen) (hbig : n * bytes ≤ 140737488355328) (hc : ∀ j u, news[j]? = some u → w.cell? ⟨b, off + j, none⟩ = some u) (h1 : ∀ u ∈ news, u.oneCell' = true) :
    Calls Try.prog 20 #[.slice (some ⟨b, off, none⟩) n c] w fun e w' => ∃ v', e = .returned v' ∧ w'.ownsRow w.heap.size 3 size v' n news ∧ v' ≠ .slice none 0 0 ∧ Below w.heap.size w w' := AnyE.slices_Clone Try.laysSlE041_f20 i0 z size bytes hi hz0 hz1 hz2 hzs hsz z23 b off n c news w hl hn hbig hc h1
open Go.RowKit Go.Lib in
theorem Try.slices_Clone_nil (n c : Nat) (w : World) :
    Calls Try.prog 20 #[.slice none n c] w fun e w' => e = .returned (.slice none 0 0) ∧ w' = w := AnyE.slices_Clone_nil Try.laysSlE041_f20 n c w
def Try.laysSlH6_f22_ren : Go.Shelf.Ren := ⟨fun | 6 => 22 | n => n, fun | 22 => 23 | 23 => 3 | 25 => 44 | 3 => 3 | 0 => 0 | 4 => 4 | n => n, fun | n => n⟩
theorem Try.laysSlH6_f22 : Go.Proofs.SlLaysH.n6 Try.prog Try.laysSlH6_f22_ren := {
  mixed := by kernel_rfl
  f6 := ⟨Try.f22.name, by decide, Try.func22.trans (congrArg some (by kernel_rfl))⟩
  t0 := Try.underlying0
  a0 := Try.isAgg0
  z0 := Try.sizeOf0
  v0 := Try.zeroValue0
  t3 := Try.underlying3
  a3 := Try.isAgg3
  z3 := Try.sizeOf3
  v3 := Try.zeroValue3
  t4 := Try.underlying4
  a4 := Try.isAgg4
  z4 := Try.sizeOf4
  v4 := Try.zeroValue4
  t22 := Try.underlying23
  a22 := Try.isAgg23
  z22 := Try.sizeOf23
  v22 := Try.zeroValue23
  a23 := Try.isAgg3
  z23 := Try.sizeOf3
  t25 := Try.underlying44
  a25 := Try.isAgg44
  z25 := Try.sizeOf44
  v25 := Try.zeroValue44 }
open Go.RowKit Go.Lib in
theorem Try.slices_IndexFunc {α : Type} [Inhabited α] (enc : α → Value) (p : α → Bool) (g : Nat) (lb : Array Value) (eg : ∀ args w, (callFunc g args).run Try.prog w = .ok (.enter g args) w) (b off n c : Nat) (zs : List α) (w : World) (hp : PredAt Try.prog g lb enc p w) (hz : n ≤ zs.length) (hbig : n ≤ 9223372036854775807) (hc : ∀ j, j < zs.length → w.cell? ⟨b, off + j, none⟩ = some (enc zs[j]!)) :
    Calls Try.prog 22 #[.slice (some ⟨b, off, none⟩) n c, .func (.func g) #[] lb] w fun e w' => e = .returned (.int .i64 (Lib.idxBy (fun _ y => p y) (zs.take n) default)) ∧ ∃ q, w' = w.drewN q := AnyE.slices_IndexFunc Try.laysSlH6_f22 enc p g lb eg b off n c zs w hp hz hbig hc
open Go.RowKit Go.Lib in
theorem Try.slices_IndexFunc_empty {α : Type} [Inhabited α] (a : Option Addr) (c : Nat) (fv : Value) (w : World) :
    Calls Try.prog 22 #[.slice a 0 c, fv] w fun e w' => e = .returned (.int .i64 (-1)) ∧ w' = w := AnyE.slices_IndexFunc_empty Try.laysSlH6_f22 a c fv w
def Try.laysSlH10_f19_ren : Go.Shelf.Ren := ⟨fun | 10 => 19 | 6 => 22 | n => n, fun | 22 => 23 | 23 => 3 | 25 => 44 | 3 => 3 | 4 => 4 | 0 => 0 | n => n, fun | n => n⟩
theorem Try.laysSlH10_f19 : Go.Proofs.SlLaysH.n10 Try.prog Try.laysSlH10_f19_ren := {
  mixed := by kernel_rfl
  f6 := ⟨Try.f22.name, by decide, Try.func22.trans (congrArg some (by kernel_rfl))⟩
  f10 := ⟨Try.f19.name, by decide, Try.func19.trans (congrArg some (by kernel_rfl))⟩
  t0 := Try.underlying0
  a0 := Try.isAgg0
  z0 := Try.sizeOf0
  v0 := Try.zeroValue0
  t3 := Try.underlying3
  a3 := Try.isAgg3
  z3 := Try.sizeOf3
  v3 := Try.zeroValue3
  t4 := Try.underlying4
  a4 := Try.isAgg4
  z4 := Try.sizeOf4
  v4 := Try.zeroValue4
  t22 := Try.underlying23
  a22 := Try.isAgg23
  z22 := Try.sizeOf23
  v22 := Try.zeroValue23
  a23 := Try.isAgg3
  z23 := Try.sizeOf3
  t25 := Try.underlying44
  a25 := Try.isAgg44
  z25 := Try.sizeOf44
  v25 := Try.zeroValue44 }
open Go.RowKit Go.Lib Go.Sort in
theorem Try.slices_DeleteFunc {α : Type} [Inhabited α] (enc : α → Value) (hO : OneCell enc) (p : α → Bool) (g : Nat) (lb : Array Value) (eg : ∀ args w, (callFunc g args).run Try.prog w = .ok (.enter g args) w) (zr : α) (v23 : ∀ w, (zeroValue 3).run Try.prog w = .ok (enc zr) w) (blk off cap : Nat) (d : Array α) (w : World) (hp : PredAt Try.prog g lb enc p w) (hpo : PredOver Try.prog g lb enc p blk off d.size w) (hH : Holds enc w blk off d) (hsz : d.size ≤ 9223372036854775807) (hcap : d.size ≤ cap) :
    Calls Try.prog 19 #[.slice (some ⟨blk, off, none⟩) d.size cap, .func (.func g) #[] lb] w fun e w' => e = .returned (.slice (some ⟨blk, off, none⟩) (d.toList.filter fun x => !p x).length cap) ∧ ∃ q, w' = putRow enc (Sort.ahead w q) blk off ((d.toList.filter fun x => !p x) ++ List.replicate (d.size - (d.toList.filter fun x => !p x).length) zr).toArray := AnyE.slices_DeleteFunc Try.laysSlH10_f19 enc hO p g lb eg zr v23 blk off cap d w hp hpo hH hsz hcap
end Go.Proofs
