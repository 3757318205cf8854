/- The library's contracts (little endian reads and writes, the product of two words) at this translation, in plain words, as the shelf's tools write them. -/
import Derived.Ground.MnProg
import Derived.Shelf.Bin.LEUint64
import Derived.Shelf.Bin.LEPutUint64
import Derived.Shelf.Bits.Mul64
import Derived.Test.YtfkfljohhabldaaDoorProg
namespace Go.Proofs
open Go.Shelf
def Tryd.laysBin33_ren : Go.Shelf.Ren := ⟨fun | 33 => 138 | n => n, fun | 25 => 146 | 22 => 28 | 33 => 24 | 0 => 0 | 5 => 5 | 45 => 117 | n => n, fun | n => n⟩
theorem Tryd.laysBin33 : Go.Proofs.LaysBin.n33 Tryd.prog Tryd.laysBin33_ren := {
  mixed := by kernel_rfl
  f33 := Tryd.func138.trans (congrArg some (by kernel_rfl))
  t0 := Tryd.underlying0
  a0 := Tryd.isAgg0
  z0 := Tryd.sizeOf0
  v0 := Tryd.zeroValue0
  i0 := by kernel_rfl
  t5 := Tryd.underlying5
  a5 := Tryd.isAgg5
  z5 := Tryd.sizeOf5
  v5 := Tryd.zeroValue5
  i5 := by kernel_rfl
  t22 := Tryd.underlying28
  a22 := Tryd.isAgg28
  z22 := Tryd.sizeOf28
  v22 := Tryd.zeroValue28
  i22 := by kernel_rfl
  t25 := Tryd.underlying146
  a25 := Tryd.isAgg146
  z25 := Tryd.sizeOf146
  v25 := Tryd.zeroValue146
  i25 := by kernel_rfl
  t33 := Tryd.underlying24
  a33 := Tryd.isAgg24
  z33 := Tryd.sizeOf24
  v33 := Tryd.zeroValue24
  i33 := by kernel_rfl
  t45 := Tryd.underlying117
  a45 := Tryd.isAgg117
  z45 := Tryd.sizeOf117
  v45 := Tryd.zeroValue117
  i45 := by kernel_rfl }
open Go.RowKit in
theorem Tryd.binary_LE_Uint64 (g o n c : Nat) (b0 b1 b2 b3 b4 b5 b6 b7 : UInt8) (w : World) (hn : 8 ≤ n) (c0 : w.cell? ⟨g, o, none⟩ = some (.int .u8 b0.toNat)) (c1 : w.cell? ⟨g, o + 1, none⟩ = some (.int .u8 b1.toNat)) (c2 : w.cell? ⟨g, o + 2, none⟩ = some (.int .u8 b2.toNat)) (c3 : w.cell? ⟨g, o + 3, none⟩ = some (.int .u8 b3.toNat)) (c4 : w.cell? ⟨g, o + 4, none⟩ = some (.int .u8 b4.toNat)) (c5 : w.cell? ⟨g, o + 5, none⟩ = some (.int .u8 b5.toNat)) (c6 : w.cell? ⟨g, o + 6, none⟩ = some (.int .u8 b6.toNat)) (c7 : w.cell? ⟨g, o + 7, none⟩ = some (.int .u8 b7.toNat)) :
    Calls Tryd.prog 138 #[.agg #[], .slice (some ⟨g, o, none⟩) n c] w fun e w' => e = .returned (.int .u64 (Lib.leNat [b0, b1, b2, b3, b4, b5, b6, b7])) ∧ Below w.heap.size w w' := Any.binary_LE_Uint64 Tryd.laysBin33 g o n c b0 b1 b2 b3 b4 b5 b6 b7 w hn c0 c1 c2 c3 c4 c5 c6 c7
def Tryd.laysBin34_ren : Go.Shelf.Ren := ⟨fun | 34 => 146 | n => n, fun | 25 => 146 | 22 => 28 | 33 => 24 | 0 => 0 | 5 => 5 | 45 => 117 | n => n, fun | n => n⟩
theorem Tryd.laysBin34 : Go.Proofs.LaysBin.n34 Tryd.prog Tryd.laysBin34_ren := {
  mixed := by kernel_rfl
  f34 := Tryd.func146.trans (congrArg some (by kernel_rfl))
  t0 := Tryd.underlying0
  a0 := Tryd.isAgg0
  z0 := Tryd.sizeOf0
  v0 := Tryd.zeroValue0
  i0 := by kernel_rfl
  t5 := Tryd.underlying5
  a5 := Tryd.isAgg5
  z5 := Tryd.sizeOf5
  v5 := Tryd.zeroValue5
  i5 := by kernel_rfl
  t22 := Tryd.underlying28
  a22 := Tryd.isAgg28
  z22 := Tryd.sizeOf28
  v22 := Tryd.zeroValue28
  i22 := by kernel_rfl
  t25 := Tryd.underlying146
  a25 := Tryd.isAgg146
  z25 := Tryd.sizeOf146
  v25 := Tryd.zeroValue146
  i25 := by kernel_rfl
  t33 := Tryd.underlying24
  a33 := Tryd.isAgg24
  z33 := Tryd.sizeOf24
  v33 := Tryd.zeroValue24
  i33 := by kernel_rfl
  t45 := Tryd.underlying117
  a45 := Tryd.isAgg117
  z45 := Tryd.sizeOf117
  v45 := Tryd.zeroValue117
  i45 := by kernel_rfl }
open Go.RowKit in
theorem Tryd.binary_LE_PutUint64 (g o n c v : Nat) (hv : v < 18446744073709551616) (x0 x1 x2 x3 x4 x5 x6 x7 : Value) (w : World) (hn : 8 ≤ n) (c0 : w.cell? ⟨g, o, none⟩ = some x0) (c1 : w.cell? ⟨g, o + 1, none⟩ = some x1) (c2 : w.cell? ⟨g, o + 2, none⟩ = some x2) (c3 : w.cell? ⟨g, o + 3, none⟩ = some x3) (c4 : w.cell? ⟨g, o + 4, none⟩ = some x4) (c5 : w.cell? ⟨g, o + 5, none⟩ = some x5) (c6 : w.cell? ⟨g, o + 6, none⟩ = some x6) (c7 : w.cell? ⟨g, o + 7, none⟩ = some x7) (f0 : w.frozen? ⟨g, o, none⟩ = false) (f1 : w.frozen? ⟨g, o + 1, none⟩ = false) (f2 : w.frozen? ⟨g, o + 2, none⟩ = false) (f3 : w.frozen? ⟨g, o + 3, none⟩ = false) (f4 : w.frozen? ⟨g, o + 4, none⟩ = false) (f5 : w.frozen? ⟨g, o + 5, none⟩ = false) (f6 : w.frozen? ⟨g, o + 6, none⟩ = false) (f7 : w.frozen? ⟨g, o + 7, none⟩ = false) :
    Calls Tryd.prog 146 #[.agg #[], .slice (some ⟨g, o, none⟩) n c, .int .u64 v] w fun e w' => e = .returned (.tuple #[]) ∧ w' = (w.alloc (.cells #[] 146)).setCells g o (Lib.byteCells (Lib.leBytes 8 v)) := Any.binary_LE_PutUint64 Tryd.laysBin34 g o n c v hv x0 x1 x2 x3 x4 x5 x6 x7 w hn c0 c1 c2 c3 c4 c5 c6 c7 f0 f1 f2 f3 f4 f5 f6 f7
def Tryd.lays264_ren : Go.Shelf.Ren := ⟨fun | 264 => 144 | n => n, fun | 53 => 24 | 46 => 117 | n => n, fun | n => n⟩
theorem Tryd.lays264 : Go.Proofs.Lays.n264 Tryd.prog Tryd.lays264_ren := {
  mixed := by kernel_rfl
  f264 := Tryd.func144.trans (congrArg some (by kernel_rfl))
  t46 := Tryd.underlying117
  a46 := Tryd.isAgg117
  z46 := Tryd.sizeOf117
  v46 := Tryd.zeroValue117
  t53 := Tryd.underlying24
  a53 := Tryd.isAgg24
  z53 := Tryd.sizeOf24
  v53 := Tryd.zeroValue24 }
open Go.RowKit Go.Lib in
theorem Tryd.bits_Mul64 (x y : Nat) (hx : x < 18446744073709551616) (hy : y < 18446744073709551616) (w : World) :
    Calls Tryd.prog 144 #[.int .u64 x, .int .u64 y] w fun e w' => e = .returned (.tuple #[.int .u64 ((x * y / 18446744073709551616 : Nat) : Int), .int .u64 ((x * y % 18446744073709551616 : Nat) : Int)]) ∧ w' = w := Any.bits_Mul64 Tryd.lays264 x y hx hy w
end Go.Proofs
