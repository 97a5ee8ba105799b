/-
  THE SHELF's CONTRACT for slices.Delete AT THIS PROGRAM's two instances, as the kit's own tools lay it (lay-shelf, lay-plain).
-/
import Derived.Ground.SlgnProg
import Derived.Shelf.SlicesE.Delete
import Derived.Test.YbulkejkwProg
namespace Go.Proofs
open Go.Shelf
def Yba.laysSlE45_f19_ren : Go.Shelf.Ren := ⟨fun | 45 => 19 | n => n, fun | 22 => 54 | 23 => 9 | 3 => 3 | 4 => 4 | 0 => 0 | n => n, fun | n => n⟩
theorem Yba.laysSlE45_f19 : Go.Proofs.SlLaysE.n45 Yba.prog Yba.laysSlE45_f19_ren := {
  mixed := by kernel_rfl
  f45 := ⟨Yba.f19.name, by decide, Yba.func19.trans (congrArg some (by kernel_rfl))⟩
  t0 := Yba.underlying0
  a0 := Yba.isAgg0
  z0 := Yba.sizeOf0
  v0 := Yba.zeroValue0
  t3 := Yba.underlying3
  a3 := Yba.isAgg3
  z3 := Yba.sizeOf3
  v3 := Yba.zeroValue3
  t4 := Yba.underlying4
  a4 := Yba.isAgg4
  z4 := Yba.sizeOf4
  v4 := Yba.zeroValue4
  t22 := Yba.underlying54
  a22 := Yba.isAgg54
  z22 := Yba.sizeOf54
  v22 := Yba.zeroValue54
  a23 := Yba.isAgg9
  z23 := Yba.sizeOf9 }
open Go.RowKit Go.Lib Go.Sort in
theorem Yba.slices_Delete {α : Type} [Inhabited α] (enc : α → Value) (h1 : OneCell enc) (zr : α) (v23 : ∀ w, (zeroValue 9).run Yba.prog w = .ok (enc zr) w) (i0 : TypeInfo) (hi0 : Yba.prog.info? 9 = some i0) (hz1 : i0.size = 1) (blk off cap i j : Nat) (d : Array α) (w : World) (hH : Holds enc w blk off d) (hcap : d.size ≤ cap) (hm : cap ≤ 9223372036854775807) (hij : i ≤ j) (hj : j ≤ d.size) :
    Calls Yba.prog 19 #[.slice (some ⟨blk, off, none⟩) d.size cap, .int .i64 i, .int .i64 j] w fun e w' => e = .returned (.slice (some ⟨blk, off, none⟩) (d.size - (j - i)) cap) ∧ ∃ q, w' = putRow enc (Sort.ahead w q) blk off (d.toList.take i ++ d.toList.drop j ++ List.replicate (j - i) zr).toArray := AnyE.slices_Delete Yba.laysSlE45_f19 enc h1 zr v23 i0 hi0 hz1 blk off cap i j d w hH hcap hm hij hj
def Yba.laysSlE45_f18_ren : Go.Shelf.Ren := ⟨fun | 45 => 18 | n => n, fun | 22 => 65 | 23 => 62 | 3 => 3 | 4 => 4 | 0 => 0 | n => n, fun | n => n⟩
theorem Yba.laysSlE45_f18 : Go.Proofs.SlLaysE.n45 Yba.prog Yba.laysSlE45_f18_ren := {
  mixed := by kernel_rfl
  f45 := ⟨Yba.f18.name, by decide, Yba.func18.trans (congrArg some (by kernel_rfl))⟩
  t0 := Yba.underlying0
  a0 := Yba.isAgg0
  z0 := Yba.sizeOf0
  v0 := Yba.zeroValue0
  t3 := Yba.underlying3
  a3 := Yba.isAgg3
  z3 := Yba.sizeOf3
  v3 := Yba.zeroValue3
  t4 := Yba.underlying4
  a4 := Yba.isAgg4
  z4 := Yba.sizeOf4
  v4 := Yba.zeroValue4
  t22 := Yba.underlying65
  a22 := Yba.isAgg65
  z22 := Yba.sizeOf65
  v22 := Yba.zeroValue65
  a23 := Yba.isAgg62
  z23 := Yba.sizeOf62 }
open Go.RowKit Go.Lib Go.Sort in
theorem Yba.slices_DeleteP {α : Type} [Inhabited α] (enc : α → Value) (h1 : OneCell enc) (zr : α) (v23 : ∀ w, (zeroValue 62).run Yba.prog w = .ok (enc zr) w) (i0 : TypeInfo) (hi0 : Yba.prog.info? 62 = some i0) (hz1 : i0.size = 1) (blk off cap i j : Nat) (d : Array α) (w : World) (hH : Holds enc w blk off d) (hcap : d.size ≤ cap) (hm : cap ≤ 9223372036854775807) (hij : i ≤ j) (hj : j ≤ d.size) :
    Calls Yba.prog 18 #[.slice (some ⟨blk, off, none⟩) d.size cap, .int .i64 i, .int .i64 j] w fun e w' => e = .returned (.slice (some ⟨blk, off, none⟩) (d.size - (j - i)) cap) ∧ ∃ q, w' = putRow enc (Sort.ahead w q) blk off (d.toList.take i ++ d.toList.drop j ++ List.replicate (j - i) zr).toArray := AnyE.slices_Delete Yba.laysSlE45_f18 enc h1 zr v23 i0 hi0 hz1 blk off cap i j d w hH hcap hm hij hj
end Go.Proofs
