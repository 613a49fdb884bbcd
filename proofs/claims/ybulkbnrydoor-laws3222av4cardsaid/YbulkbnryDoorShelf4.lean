import Derived.Shelf.Bin.BEUint32
import Derived.Shelf.Slices.Equal
import Derived.Shelf.Slices.Empties2
import Derived.Test.YbulkbnryDoorProg
namespace Go.Proofs
open Go.Shelf
def Ybad.laysBin39_ren : Go.Shelf.Ren := ⟨fun | 39 => 25 | n => n, fun | 37 => 71 | 22 => 73 | 29 => 24 | 0 => 0 | 5 => 5 | 45 => 36 | n => n, fun | n => n⟩
theorem Ybad.laysBin39 : Go.Proofs.LaysBin.n39 Ybad.prog Ybad.laysBin39_ren := {
  mixed := by kernel_rfl
  f39 := Ybad.func25.trans (congrArg some (by kernel_rfl))
  t0 := Ybad.underlying0
  a0 := Ybad.isAgg0
  z0 := Ybad.sizeOf0
  v0 := Ybad.zeroValue0
  i0 := by kernel_rfl
  t5 := Ybad.underlying5
  a5 := Ybad.isAgg5
  z5 := Ybad.sizeOf5
  v5 := Ybad.zeroValue5
  i5 := by kernel_rfl
  t22 := Ybad.underlying73
  a22 := Ybad.isAgg73
  z22 := Ybad.sizeOf73
  v22 := Ybad.zeroValue73
  i22 := by kernel_rfl
  t29 := Ybad.underlying24
  a29 := Ybad.isAgg24
  z29 := Ybad.sizeOf24
  v29 := Ybad.zeroValue24
  i29 := by kernel_rfl
  t37 := Ybad.underlying71
  a37 := Ybad.isAgg71
  z37 := Ybad.sizeOf71
  v37 := Ybad.zeroValue71
  i37 := by kernel_rfl
  t45 := Ybad.underlying36
  a45 := Ybad.isAgg36
  z45 := Ybad.sizeOf36
  v45 := Ybad.zeroValue36
  i45 := by kernel_rfl }
open Go.RowKit in
theorem Ybad.binary_BE_Uint32 (g o n c : Nat) (b0 b1 b2 b3 : UInt8) (w : World) (hn : 4 ≤ n) (c0 : w.cell? ⟨g, o, none⟩ = some (.int .u8 b0.toNat)) (c1 : w.cell? ⟨g, o + 1, none⟩ = some (.int .u8 b1.toNat)) (c2 : w.cell? ⟨g, o + 2, none⟩ = some (.int .u8 b2.toNat)) (c3 : w.cell? ⟨g, o + 3, none⟩ = some (.int .u8 b3.toNat)) :
    Calls Ybad.prog 25 #[.agg #[], .slice (some ⟨g, o, none⟩) n c] w fun e w' => e = .returned (.int .u32 (Lib.beNat [b0, b1, b2, b3])) ∧ Below w.heap.size w w' := Any.binary_BE_Uint32 Ybad.laysBin39 g o n c b0 b1 b2 b3 w hn c0 c1 c2 c3
def Ybad.lays111_ren : Go.Shelf.Ren := ⟨fun | 111 => 11 | n => n, fun | 28 => 32 | 3 => 3 | 4 => 4 | 0 => 0 | n => n, fun | n => n⟩
theorem Ybad.lays111 : Go.Proofs.Lays.n111 Ybad.prog Ybad.lays111_ren := {
  mixed := by kernel_rfl
  f111 := Ybad.func11.trans (congrArg some (by kernel_rfl))
  t0 := Ybad.underlying0
  a0 := Ybad.isAgg0
  z0 := Ybad.sizeOf0
  v0 := Ybad.zeroValue0
  t3 := Ybad.underlying3
  a3 := Ybad.isAgg3
  z3 := Ybad.sizeOf3
  v3 := Ybad.zeroValue3
  t4 := Ybad.underlying4
  a4 := Ybad.isAgg4
  z4 := Ybad.sizeOf4
  v4 := Ybad.zeroValue4
  t28 := Ybad.underlying32
  a28 := Ybad.isAgg32
  z28 := Ybad.sizeOf32
  v28 := Ybad.zeroValue32 }
open Go.RowKit Go.Lib in
theorem Ybad.slices_Equal_int (b1 o1 n c b2 o2 m d : Nat) (xs ys : List Int) (w : World) (hx : n ≤ xs.length) (hy : m ≤ ys.length) (hbig : n ≤ 9223372036854775807) (hbig2 : m ≤ 9223372036854775807) (hc1 : ∀ j, j < xs.length → w.cell? ⟨b1, o1 + j, none⟩ = some (.int .i64 (xs.getD j 0))) (hc2 : ∀ j, j < ys.length → w.cell? ⟨b2, o2 + j, none⟩ = some (.int .i64 (ys.getD j 0))) :
    Calls Ybad.prog 11 #[.slice (some ⟨b1, o1, none⟩) n c, .slice (some ⟨b2, o2, none⟩) m d] w fun e w' => e = .returned (.bool (xs.take n == ys.take m)) ∧ ∃ q, w' = w.drewN q := Any.slices_Equal_int Ybad.lays111 b1 o1 n c b2 o2 m d xs ys w hx hy hbig hbig2 hc1 hc2
open Go.RowKit Go.Lib in
theorem Ybad.slices_Equal_int_empty (a1 a2 : Option Addr) (c m d : Nat) (w : World) (hbig2 : m ≤ 9223372036854775807) :
    Calls Ybad.prog 11 #[.slice a1 0 c, .slice a2 m d] w fun e w' => e = .returned (.bool (decide (m = 0))) ∧ w' = w := Any.slices_Equal_int_empty Ybad.lays111 a1 a2 c m d w hbig2
open Go.RowKit Go.Lib in
theorem Ybad.slices_Equal_int_lens (a1 a2 : Option Addr) (n c m d : Nat) (w : World) (hnm : n ≠ m) :
    Calls Ybad.prog 11 #[.slice a1 n c, .slice a2 m d] w fun e w' => e = .returned (.bool false) ∧ w' = w := Any.slices_Equal_int_lens Ybad.lays111 a1 a2 n c m d w hnm
end Go.Proofs
