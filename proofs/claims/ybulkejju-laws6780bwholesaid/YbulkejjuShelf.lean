/-
  THE SHELF's CONTRACTS for encoding/binary.Uvarint, bytes.Clone and bytes.Equal AT THIS PROGRAM, as the kit's own tools lay them (lay-shelf, lay-plain).
-/
import Derived.Ground.MnProg
import Derived.Shelf.Bin.Uvarint
import Derived.Shelf.Bin.UvarintEmpty
import Derived.Ground.SlbCloneProg
import Derived.Shelf.Bytes.SlClone
import Derived.Shelf.Bytes.SlEqualAll
import Derived.Shelf.Bytes.Small
import Derived.Test.YbulkejjuProg
namespace Go.Proofs
open Go.Shelf
def Yba.laysBin45_ren : Go.Shelf.Ren := ⟨fun | 45 => 10 | n => n, fun | 22 => 22 | 33 => 25 | 3 => 3 | 45 => 23 | 0 => 0 | 5 => 5 | 4 => 4 | n => n, fun | n => n⟩
theorem Yba.laysBin45 : Go.Proofs.LaysBin.n45 Yba.prog Yba.laysBin45_ren := {
  mixed := by kernel_rfl
  f45 := Yba.func10.trans (congrArg some (by kernel_rfl))
  t0 := Yba.underlying0
  a0 := Yba.isAgg0
  z0 := Yba.sizeOf0
  v0 := Yba.zeroValue0
  i0 := by kernel_rfl
  t3 := Yba.underlying3
  a3 := Yba.isAgg3
  z3 := Yba.sizeOf3
  v3 := Yba.zeroValue3
  i3 := by kernel_rfl
  t4 := Yba.underlying4
  a4 := Yba.isAgg4
  z4 := Yba.sizeOf4
  v4 := Yba.zeroValue4
  i4 := by kernel_rfl
  t5 := Yba.underlying5
  a5 := Yba.isAgg5
  z5 := Yba.sizeOf5
  v5 := Yba.zeroValue5
  i5 := by kernel_rfl
  t22 := Yba.underlying22
  a22 := Yba.isAgg22
  z22 := Yba.sizeOf22
  v22 := Yba.zeroValue22
  i22 := by kernel_rfl
  t33 := Yba.underlying25
  a33 := Yba.isAgg25
  z33 := Yba.sizeOf25
  v33 := Yba.zeroValue25
  i33 := by kernel_rfl
  t45 := Yba.underlying23
  a45 := Yba.isAgg23
  z45 := Yba.sizeOf23
  v45 := Yba.zeroValue23
  i45 := by kernel_rfl }
open Go.RowKit in
theorem Yba.binary_Uvarint (g o n c : Nat) (l : List UInt8) (w : World) (hl : l.length = n) (hcell : ∀ j (hj : j < l.length), w.cell? ⟨g, o + j, none⟩ = some (.int .u8 (l[j]).toNat)) :
    Calls Yba.prog 10 #[.slice (some ⟨g, o, none⟩) n c] w fun e w' => e = .returned (.tuple #[.int .u64 (Lib.uvarintDec l).1, .int .i64 (Lib.uvarintDec l).2]) ∧ w' = w := Any.binary_Uvarint Yba.laysBin45 g o n c l w hl hcell
open Go.RowKit in
theorem Yba.binary_Uvarint_empty (ao : Option Addr) (c : Nat) (w : World) :
    Calls Yba.prog 10 #[.slice ao 0 c] w fun e w' => e = .returned (.tuple #[.int .u64 (Lib.uvarintDec []).1, .int .i64 (Lib.uvarintDec []).2]) ∧ w' = w := Any.binary_Uvarint_empty Yba.laysBin45 ao c w
def Yba.laysSlK4_ren : Go.Shelf.Ren := ⟨fun | 4 => 4 | n => n, fun | 22 => 22 | 4 => 4 | 5 => 5 | n => n, fun | n => n⟩
theorem Yba.laysSlK4 : Go.Proofs.SlLaysK.n4 Yba.prog Yba.laysSlK4_ren := {
  mixed := by kernel_rfl
  f4 := Yba.func4.trans (congrArg some (by kernel_rfl))
  t4 := Yba.underlying4
  a4 := Yba.isAgg4
  z4 := Yba.sizeOf4
  v4 := Yba.zeroValue4
  t22 := Yba.underlying22
  a22 := Yba.isAgg22
  z22 := Yba.sizeOf22
  v22 := Yba.zeroValue22
  t5 := Yba.underlying5
  i5 := by kernel_rfl }
open Go.RowKit Go.Lib in
theorem Yba.bytes_Clone_at (a : Addr) (n c : Nat) (xs : List Int) (w : World) (hx : xs.length = n) (hbig : n ≤ 140737488355328) (hc : ∀ i, i < n → w.cell? (a.add i) = some (.int .u8 (xs.getD i 0))) :
    Calls Yba.prog 4 #[.slice (some a) n c] w fun e w' => ∃ v', e = .returned v' ∧ w'.ownsRow w.heap.size 5 1 v' n (xs.map (Value.int .u8)) ∧ v' ≠ .slice none 0 0 ∧ Below w.heap.size w w' := Any.bytes_Clone_at Yba.laysSlK4 a n c xs w hx hbig hc
open Go.RowKit Go.Lib in
theorem Yba.bytes_Clone_nil (n c : Nat) (w : World) :
    Calls Yba.prog 4 #[.slice none n c] w fun e w' => e = .returned (.slice none 0 0) ∧ w' = w := Any.bytes_Clone_nil Yba.laysSlK4 n c w
def Yba.laysnb115_ren : Go.Shelf.Ren := ⟨fun | 115 => 7 | n => n, fun | 37 => 22 | 4 => 4 | 9 => 9 | 5 => 5 | n => n, fun | n => n⟩
theorem Yba.laysnb115 : Go.Proofs.Lays.nb115 Yba.prog Yba.laysnb115_ren := {
  mixed := by kernel_rfl
  f115 := Yba.func7.trans (congrArg some (by kernel_rfl))
  t4 := Yba.underlying4
  a4 := Yba.isAgg4
  z4 := Yba.sizeOf4
  v4 := Yba.zeroValue4
  t9 := Yba.underlying9
  a9 := Yba.isAgg9
  z9 := Yba.sizeOf9
  v9 := Yba.zeroValue9
  t37 := Yba.underlying22
  a37 := Yba.isAgg22
  z37 := Yba.sizeOf22
  v37 := Yba.zeroValue22
  t5 := Yba.underlying5
  a5 := Yba.isAgg5
  z5 := Yba.sizeOf5
  v5 := Yba.zeroValue5 }
theorem Yba.bytes_Equal_all (p1 p2 : Option Addr) (n c m d : Nat) (xs ys : List Int) (w : World) (hx : xs.length = n) (hy : ys.length = m) (h1 : Lib.BytesIn w p1 n xs) (h2 : Lib.BytesIn w p2 m ys) :
    Calls Yba.prog 7 #[.slice p1 n c, .slice p2 m d] w fun e w' => e = .returned (.bool (Lib.bytesOf xs == Lib.bytesOf ys)) ∧ w' = w := Any.bytes_Equal_all Yba.laysnb115 p1 p2 n c m d xs ys w hx hy h1 h2
def Yba.lays115_ren : Go.Shelf.Ren := ⟨fun | 115 => 7 | n => n, fun | 37 => 22 | 4 => 4 | 9 => 9 | 5 => 5 | n => n, fun | n => n⟩
theorem Yba.lays115 : Go.Proofs.Lays.n115 Yba.prog Yba.lays115_ren := {
  mixed := by kernel_rfl
  f115 := Yba.func7.trans (congrArg some (by kernel_rfl))
  t4 := Yba.underlying4
  a4 := Yba.isAgg4
  z4 := Yba.sizeOf4
  v4 := Yba.zeroValue4
  t9 := Yba.underlying9
  a9 := Yba.isAgg9
  z9 := Yba.sizeOf9
  v9 := Yba.zeroValue9
  t37 := Yba.underlying22
  a37 := Yba.isAgg22
  z37 := Yba.sizeOf22
  v37 := Yba.zeroValue22 }
theorem Yba.bytes_Equal (v1 v2 : Value) (xs ys : List Int) (w : World) (h1 : (convert 22 9 v1).run Yba.prog w = .ok (.string (strOfNums xs)) w) (h2 : (convert 22 9 v2).run Yba.prog w = .ok (.string (strOfNums ys)) w) :
    Calls Yba.prog 7 #[v1, v2] w fun e w' => e = .returned (.bool (Lib.bytesOf xs == Lib.bytesOf ys)) ∧ w' = w := Any.bytes_Equal Yba.lays115 v1 v2 xs ys w h1 h2
end Go.Proofs
