import Derived.Shelf.Bin.BEUint32
import Derived.Shelf.Bin.BEUint64
import Derived.Shelf.Bin.BEPutUint64
import Derived.Shelf.Slices.Equal
import Derived.Shelf.Slices.Empties2
import Derived.Shelf.SlSortCmp.NoneTotal
import Derived.Test.YbulkbnryDoorProg
namespace Go.Proofs
open Go.Shelf
def Ybad.laysBin39_ren : Go.Shelf.Ren := ⟨fun | 39 => 25 | n => n, fun | 37 => 71 | 22 => 73 | 29 => 24 | 0 => 0 | 5 => 5 | 45 => 36 | n => n, fun | n => n⟩
theorem Ybad.laysBin39 : Go.Proofs.LaysBin.n39 Ybad.prog Ybad.laysBin39_ren := {
  mixed := by kernel_rfl
  f39 := Ybad.func25.trans (congrArg some (by kernel_rfl))
  t0 := Ybad.underlying0
  a0 := Ybad.isAgg0
  z0 := Ybad.sizeOf0
  v0 := Ybad.zeroValue0
  i0 := by kernel_rfl
  t5 := Ybad.underlying5
  a5 := Ybad.isAgg5
  z5 := Ybad.sizeOf5
  v5 := Ybad.zeroValue5
  i5 := by kernel_rfl
  t22 := Ybad.underlying73
  a22 := Ybad.isAgg73
  z22 := Ybad.sizeOf73
  v22 := Ybad.zeroValue73
  i22 := by kernel_rfl
  t29 := Ybad.underlying24
  a29 := Ybad.isAgg24
  z29 := Ybad.sizeOf24
  v29 := Ybad.zeroValue24
  i29 := by kernel_rfl
  t37 := Ybad.underlying71
  a37 := Ybad.isAgg71
  z37 := Ybad.sizeOf71
  v37 := Ybad.zeroValue71
  i37 := by kernel_rfl
  t45 := Ybad.underlying36
  a45 := Ybad.isAgg36
  z45 := Ybad.sizeOf36
  v45 := Ybad.zeroValue36
  i45 := by kernel_rfl }
open Go.RowKit in
theorem Ybad.binary_BE_Uint32 (g o n c : Nat) (b0 b1 b2 b3 : UInt8) (w : World) (hn : 4 ≤ n) (c0 : w.cell? ⟨g, o, none⟩ = some (.int .u8 b0.toNat)) (c1 : w.cell? ⟨g, o + 1, none⟩ = some (.int .u8 b1.toNat)) (c2 : w.cell? ⟨g, o + 2, none⟩ = some (.int .u8 b2.toNat)) (c3 : w.cell? ⟨g, o + 3, none⟩ = some (.int .u8 b3.toNat)) :
    Calls Ybad.prog 25 #[.agg #[], .slice (some ⟨g, o, none⟩) n c] w fun e w' => e = .returned (.int .u32 (Lib.beNat [b0, b1, b2, b3])) ∧ Below w.heap.size w w' := Any.binary_BE_Uint32 Ybad.laysBin39 g o n c b0 b1 b2 b3 w hn c0 c1 c2 c3
def Ybad.laysBin42_ren : Go.Shelf.Ren := ⟨fun | 42 => 51 | n => n, fun | 37 => 71 | 22 => 73 | 33 => 35 | 0 => 0 | 5 => 5 | 45 => 36 | n => n, fun | n => n⟩
theorem Ybad.laysBin42 : Go.Proofs.LaysBin.n42 Ybad.prog Ybad.laysBin42_ren := {
  mixed := by kernel_rfl
  f42 := Ybad.func51.trans (congrArg some (by kernel_rfl))
  t0 := Ybad.underlying0
  a0 := Ybad.isAgg0
  z0 := Ybad.sizeOf0
  v0 := Ybad.zeroValue0
  i0 := by kernel_rfl
  t5 := Ybad.underlying5
  a5 := Ybad.isAgg5
  z5 := Ybad.sizeOf5
  v5 := Ybad.zeroValue5
  i5 := by kernel_rfl
  t22 := Ybad.underlying73
  a22 := Ybad.isAgg73
  z22 := Ybad.sizeOf73
  v22 := Ybad.zeroValue73
  i22 := by kernel_rfl
  t33 := Ybad.underlying35
  a33 := Ybad.isAgg35
  z33 := Ybad.sizeOf35
  v33 := Ybad.zeroValue35
  i33 := by kernel_rfl
  t37 := Ybad.underlying71
  a37 := Ybad.isAgg71
  z37 := Ybad.sizeOf71
  v37 := Ybad.zeroValue71
  i37 := by kernel_rfl
  t45 := Ybad.underlying36
  a45 := Ybad.isAgg36
  z45 := Ybad.sizeOf36
  v45 := Ybad.zeroValue36
  i45 := by kernel_rfl }
open Go.RowKit in
theorem Ybad.binary_BE_Uint64 (g o n c : Nat) (b0 b1 b2 b3 b4 b5 b6 b7 : UInt8) (w : World) (hn : 8 ≤ n) (c0 : w.cell? ⟨g, o, none⟩ = some (.int .u8 b0.toNat)) (c1 : w.cell? ⟨g, o + 1, none⟩ = some (.int .u8 b1.toNat)) (c2 : w.cell? ⟨g, o + 2, none⟩ = some (.int .u8 b2.toNat)) (c3 : w.cell? ⟨g, o + 3, none⟩ = some (.int .u8 b3.toNat)) (c4 : w.cell? ⟨g, o + 4, none⟩ = some (.int .u8 b4.toNat)) (c5 : w.cell? ⟨g, o + 5, none⟩ = some (.int .u8 b5.toNat)) (c6 : w.cell? ⟨g, o + 6, none⟩ = some (.int .u8 b6.toNat)) (c7 : w.cell? ⟨g, o + 7, none⟩ = some (.int .u8 b7.toNat)) :
    Calls Ybad.prog 51 #[.agg #[], .slice (some ⟨g, o, none⟩) n c] w fun e w' => e = .returned (.int .u64 (Lib.beNat [b0, b1, b2, b3, b4, b5, b6, b7])) ∧ Below w.heap.size w w' := Any.binary_BE_Uint64 Ybad.laysBin42 g o n c b0 b1 b2 b3 b4 b5 b6 b7 w hn c0 c1 c2 c3 c4 c5 c6 c7
def Ybad.laysBin43_ren : Go.Shelf.Ren := ⟨fun | 43 => 19 | n => n, fun | 37 => 71 | 22 => 73 | 33 => 35 | 0 => 0 | 5 => 5 | 45 => 36 | n => n, fun | n => n⟩
theorem Ybad.laysBin43 : Go.Proofs.LaysBin.n43 Ybad.prog Ybad.laysBin43_ren := {
  mixed := by kernel_rfl
  f43 := Ybad.func19.trans (congrArg some (by kernel_rfl))
  t0 := Ybad.underlying0
  a0 := Ybad.isAgg0
  z0 := Ybad.sizeOf0
  v0 := Ybad.zeroValue0
  i0 := by kernel_rfl
  t5 := Ybad.underlying5
  a5 := Ybad.isAgg5
  z5 := Ybad.sizeOf5
  v5 := Ybad.zeroValue5
  i5 := by kernel_rfl
  t22 := Ybad.underlying73
  a22 := Ybad.isAgg73
  z22 := Ybad.sizeOf73
  v22 := Ybad.zeroValue73
  i22 := by kernel_rfl
  t33 := Ybad.underlying35
  a33 := Ybad.isAgg35
  z33 := Ybad.sizeOf35
  v33 := Ybad.zeroValue35
  i33 := by kernel_rfl
  t37 := Ybad.underlying71
  a37 := Ybad.isAgg71
  z37 := Ybad.sizeOf71
  v37 := Ybad.zeroValue71
  i37 := by kernel_rfl
  t45 := Ybad.underlying36
  a45 := Ybad.isAgg36
  z45 := Ybad.sizeOf36
  v45 := Ybad.zeroValue36
  i45 := by kernel_rfl }
open Go.RowKit in
theorem Ybad.binary_BE_PutUint64 (g o n c v : Nat) (hv : v < 18446744073709551616) (x0 x1 x2 x3 x4 x5 x6 x7 : Value) (w : World) (hn : 8 ≤ n) (c0 : w.cell? ⟨g, o, none⟩ = some x0) (c1 : w.cell? ⟨g, o + 1, none⟩ = some x1) (c2 : w.cell? ⟨g, o + 2, none⟩ = some x2) (c3 : w.cell? ⟨g, o + 3, none⟩ = some x3) (c4 : w.cell? ⟨g, o + 4, none⟩ = some x4) (c5 : w.cell? ⟨g, o + 5, none⟩ = some x5) (c6 : w.cell? ⟨g, o + 6, none⟩ = some x6) (c7 : w.cell? ⟨g, o + 7, none⟩ = some x7) (f0 : w.frozen? ⟨g, o, none⟩ = false) (f1 : w.frozen? ⟨g, o + 1, none⟩ = false) (f2 : w.frozen? ⟨g, o + 2, none⟩ = false) (f3 : w.frozen? ⟨g, o + 3, none⟩ = false) (f4 : w.frozen? ⟨g, o + 4, none⟩ = false) (f5 : w.frozen? ⟨g, o + 5, none⟩ = false) (f6 : w.frozen? ⟨g, o + 6, none⟩ = false) (f7 : w.frozen? ⟨g, o + 7, none⟩ = false) :
    Calls Ybad.prog 19 #[.agg #[], .slice (some ⟨g, o, none⟩) n c, .int .u64 v] w fun e w' => e = .returned (.tuple #[]) ∧ w' = (w.alloc (.cells #[] 71)).setCells g o (Lib.byteCells (Lib.beBytes 8 v)) := Any.binary_BE_PutUint64 Ybad.laysBin43 g o n c v hv x0 x1 x2 x3 x4 x5 x6 x7 w hn c0 c1 c2 c3 c4 c5 c6 c7 f0 f1 f2 f3 f4 f5 f6 f7
def Ybad.lays111_ren : Go.Shelf.Ren := ⟨fun | 111 => 11 | n => n, fun | 28 => 32 | 3 => 3 | 4 => 4 | 0 => 0 | n => n, fun | n => n⟩
theorem Ybad.lays111 : Go.Proofs.Lays.n111 Ybad.prog Ybad.lays111_ren := {
  mixed := by kernel_rfl
  f111 := Ybad.func11.trans (congrArg some (by kernel_rfl))
  t0 := Ybad.underlying0
  a0 := Ybad.isAgg0
  z0 := Ybad.sizeOf0
  v0 := Ybad.zeroValue0
  t3 := Ybad.underlying3
  a3 := Ybad.isAgg3
  z3 := Ybad.sizeOf3
  v3 := Ybad.zeroValue3
  t4 := Ybad.underlying4
  a4 := Ybad.isAgg4
  z4 := Ybad.sizeOf4
  v4 := Ybad.zeroValue4
  t28 := Ybad.underlying32
  a28 := Ybad.isAgg32
  z28 := Ybad.sizeOf32
  v28 := Ybad.zeroValue32 }
open Go.RowKit Go.Lib in
theorem Ybad.slices_Equal_int (b1 o1 n c b2 o2 m d : Nat) (xs ys : List Int) (w : World) (hx : n ≤ xs.length) (hy : m ≤ ys.length) (hbig : n ≤ 9223372036854775807) (hbig2 : m ≤ 9223372036854775807) (hc1 : ∀ j, j < xs.length → w.cell? ⟨b1, o1 + j, none⟩ = some (.int .i64 (xs.getD j 0))) (hc2 : ∀ j, j < ys.length → w.cell? ⟨b2, o2 + j, none⟩ = some (.int .i64 (ys.getD j 0))) :
    Calls Ybad.prog 11 #[.slice (some ⟨b1, o1, none⟩) n c, .slice (some ⟨b2, o2, none⟩) m d] w fun e w' => e = .returned (.bool (xs.take n == ys.take m)) ∧ ∃ q, w' = w.drewN q := Any.slices_Equal_int Ybad.lays111 b1 o1 n c b2 o2 m d xs ys w hx hy hbig hbig2 hc1 hc2
open Go.RowKit Go.Lib in
theorem Ybad.slices_Equal_int_empty (a1 a2 : Option Addr) (c m d : Nat) (w : World) (hbig2 : m ≤ 9223372036854775807) :
    Calls Ybad.prog 11 #[.slice a1 0 c, .slice a2 m d] w fun e w' => e = .returned (.bool (decide (m = 0))) ∧ w' = w := Any.slices_Equal_int_empty Ybad.lays111 a1 a2 c m d w hbig2
open Go.RowKit Go.Lib in
theorem Ybad.slices_Equal_int_lens (a1 a2 : Option Addr) (n c m d : Nat) (w : World) (hnm : n ≠ m) :
    Calls Ybad.prog 11 #[.slice a1 n c, .slice a2 m d] w fun e w' => e = .returned (.bool false) ∧ w' = w := Any.slices_Equal_int_lens Ybad.lays111 a1 a2 n c m d w hnm
def Ybad.sort6_ren : Go.Shelf.Ren := ⟨fun | 6 => 13 | 15 => 22 | 14 => 31 | 28 => 44 | 29 => 45 | 20 => 54 | 21 => 55 | 22 => 56 | 23 => 57 | 24 => 58 | 25 => 59 | 26 => 60 | 27 => 61 | 46 => 70 | 47 => 63 | 48 => 64 | 49 => 71 | 50 => 72 | 57 => 74 | n => n, fun | 22 => 57 | 24 => 61 | 25 => 66 | 3 => 3 | 39 => 36 | 0 => 0 | 53 => 24 | 55 => 35 | 4 => 4 | 46 => 92 | 45 => 91 | 50 => 81 | 5 => 5 | 9 => 9 | 66 => 110 | 70 => 114 | 76 => 118 | 77 => 119 | n => n, fun | n => n⟩
set_option maxRecDepth 1000000 in
theorem Ybad.sort6 : Go.Proofs.SlLaysF0.n6 Ybad.prog Ybad.sort6_ren := {
  mixed := by kernel_rfl
  f6 := ⟨Ybad.f13.name, by decide, Ybad.func13.trans (congrArg some (by kernel_rfl))⟩
  f14 := ⟨Ybad.f31.name, by decide, Ybad.func31.trans (congrArg some (by kernel_rfl))⟩
  f15 := Ybad.func22.trans (congrArg some (by kernel_rfl))
  f20 := ⟨Ybad.f54.name, by decide, Ybad.func54.trans (congrArg some (by kernel_rfl))⟩
  f21 := ⟨Ybad.f55.name, by decide, Ybad.func55.trans (congrArg some (by kernel_rfl))⟩
  f22 := ⟨Ybad.f56.name, by decide, Ybad.func56.trans (congrArg some (by kernel_rfl))⟩
  f23 := ⟨Ybad.f57.name, by decide, Ybad.func57.trans (congrArg some (by kernel_rfl))⟩
  f24 := ⟨Ybad.f58.name, by decide, Ybad.func58.trans (congrArg some (by kernel_rfl))⟩
  f25 := ⟨Ybad.f59.name, by decide, Ybad.func59.trans (congrArg some (by kernel_rfl))⟩
  f26 := ⟨Ybad.f60.name, by decide, Ybad.func60.trans (congrArg some (by kernel_rfl))⟩
  f27 := ⟨Ybad.f61.name, by decide, Ybad.func61.trans (congrArg some (by kernel_rfl))⟩
  f28 := Ybad.func44.trans (congrArg some (by kernel_rfl))
  f29 := Ybad.func45.trans (congrArg some (by kernel_rfl))
  f46 := ⟨Ybad.f70.name, by decide, Ybad.func70.trans (congrArg some (by kernel_rfl))⟩
  f47 := Ybad.func63.trans (congrArg some (by kernel_rfl))
  f48 := Ybad.func64.trans (congrArg some (by kernel_rfl))
  f49 := ⟨Ybad.f71.name, by decide, Ybad.func71.trans (congrArg some (by kernel_rfl))⟩
  f50 := ⟨Ybad.f72.name, by decide, Ybad.func72.trans (congrArg some (by kernel_rfl))⟩
  f57 := ⟨Ybad.f74.name, by decide, Ybad.func74.trans (congrArg some (by kernel_rfl))⟩
  t0 := Ybad.underlying0
  a0 := Ybad.isAgg0
  z0 := Ybad.sizeOf0
  v0 := Ybad.zeroValue0
  t3 := Ybad.underlying3
  a3 := Ybad.isAgg3
  z3 := Ybad.sizeOf3
  v3 := Ybad.zeroValue3
  t4 := Ybad.underlying4
  a4 := Ybad.isAgg4
  z4 := Ybad.sizeOf4
  v4 := Ybad.zeroValue4
  t5 := Ybad.underlying5
  a5 := Ybad.isAgg5
  z5 := Ybad.sizeOf5
  v5 := Ybad.zeroValue5
  t9 := Ybad.underlying9
  a9 := Ybad.isAgg9
  z9 := Ybad.sizeOf9
  v9 := Ybad.zeroValue9
  t22 := Ybad.underlying57
  a22 := Ybad.isAgg57
  z22 := Ybad.sizeOf57
  v22 := Ybad.zeroValue57
  t25 := Ybad.underlying66
  a25 := Ybad.isAgg66
  z25 := Ybad.sizeOf66
  v25 := Ybad.zeroValue66
  t39 := Ybad.underlying36
  a39 := Ybad.isAgg36
  z39 := Ybad.sizeOf36
  v39 := Ybad.zeroValue36
  t45 := Ybad.underlying91
  a45 := Ybad.isAgg91
  z45 := Ybad.sizeOf91
  v45 := Ybad.zeroValue91
  t46 := Ybad.underlying92
  a46 := Ybad.isAgg92
  z46 := Ybad.sizeOf92
  v46 := Ybad.zeroValue92
  t50 := Ybad.underlying81
  a50 := Ybad.isAgg81
  z50 := Ybad.sizeOf81
  v50 := Ybad.zeroValue81
  t53 := Ybad.underlying24
  a53 := Ybad.isAgg24
  z53 := Ybad.sizeOf24
  v53 := Ybad.zeroValue24
  t55 := Ybad.underlying35
  a55 := Ybad.isAgg35
  z55 := Ybad.sizeOf35
  v55 := Ybad.zeroValue35
  t66 := Ybad.underlying110
  a66 := Ybad.isAgg110
  z66 := Ybad.sizeOf110
  v66 := Ybad.zeroValue110
  t70 := Ybad.underlying114
  a70 := Ybad.isAgg114
  z70 := Ybad.sizeOf114
  v70 := Ybad.zeroValue114
  t76 := Ybad.underlying118
  a76 := Ybad.isAgg118
  z76 := Ybad.sizeOf118
  v76 := Ybad.zeroValue118
  t77 := Ybad.underlying119
  a77 := Ybad.isAgg119
  z77 := Ybad.sizeOf119
  v77 := Ybad.zeroValue119 }
end Go.Proofs
