import Derived.Test.YbulkbnryDoorAs16
import Derived.LaidEqlPtr
namespace Go.Proofs.YbulkbnryDoor
open Go.RowKit
set_option linter.unusedSimpArgs false
set_option linter.unusedVariables false

set_option maxRecDepth 100000 in
set_option maxHeartbeats 3200000 in
theorem halves_any (x y : Nat) (z : Value) (w : World) (hx : x < 18446744073709551616) (hy : y < 18446744073709551616) :
    Calls Ybad.prog 28 #[.agg #[.int .u64 x, .int .u64 y, z]] w fun e w' => e = .returned (.tuple #[.int .u64 x, .int .u64 y]) ∧ Hid (Kept [] w w') := by
  go_enter Ybad.func28, Ybad.ntmps28
  go_wp2_with fail
  have k0 : Kept [] w (w.alloc (.cells #[.int .u64 x, .int .u64 y, z] 48)) := (Kept.refl _ _).alloc _
  refine (as16 x y z _ hx hy).mono ?_
  rintro e w1 ⟨rfl, k1⟩
  have k2 : Hid (Kept [] w w1) := k0.trans k1.out
  clear k0 k1
  have bb : Hid (Bytes (w1.alloc (.cells #[.int .u8 ((x : Int) / 72057594037927936), .int .u8 ((x : Int) / 281474976710656 % 256), .int .u8 ((x : Int) / 1099511627776 % 256), .int .u8 ((x : Int) / 4294967296 % 256), .int .u8 ((x : Int) / 16777216 % 256), .int .u8 ((x : Int) / 65536 % 256), .int .u8 ((x : Int) / 256 % 256), .int .u8 ((x : Int) % 256), .int .u8 ((y : Int) / 72057594037927936), .int .u8 ((y : Int) / 281474976710656 % 256), .int .u8 ((y : Int) / 1099511627776 % 256), .int .u8 ((y : Int) / 4294967296 % 256), .int .u8 ((y : Int) / 16777216 % 256), .int .u8 ((y : Int) / 65536 % 256), .int .u8 ((y : Int) / 256 % 256), .int .u8 ((y : Int) % 256)] 69)) w1.heap.size 0 x ∧ Bytes (w1.alloc (.cells #[.int .u8 ((x : Int) / 72057594037927936), .int .u8 ((x : Int) / 281474976710656 % 256), .int .u8 ((x : Int) / 1099511627776 % 256), .int .u8 ((x : Int) / 4294967296 % 256), .int .u8 ((x : Int) / 16777216 % 256), .int .u8 ((x : Int) / 65536 % 256), .int .u8 ((x : Int) / 256 % 256), .int .u8 ((x : Int) % 256), .int .u8 ((y : Int) / 72057594037927936), .int .u8 ((y : Int) / 281474976710656 % 256), .int .u8 ((y : Int) / 1099511627776 % 256), .int .u8 ((y : Int) / 4294967296 % 256), .int .u8 ((y : Int) / 16777216 % 256), .int .u8 ((y : Int) / 65536 % 256), .int .u8 ((y : Int) / 256 % 256), .int .u8 ((y : Int) % 256)] 69)) w1.heap.size 8 y) := bytes16_at w1 x y
  have k3 : Hid (Kept [] w (w1.alloc (.cells #[.int .u8 ((x : Int) / 72057594037927936), .int .u8 ((x : Int) / 281474976710656 % 256), .int .u8 ((x : Int) / 1099511627776 % 256), .int .u8 ((x : Int) / 4294967296 % 256), .int .u8 ((x : Int) / 16777216 % 256), .int .u8 ((x : Int) / 65536 % 256), .int .u8 ((x : Int) / 256 % 256), .int .u8 ((x : Int) % 256), .int .u8 ((y : Int) / 72057594037927936), .int .u8 ((y : Int) / 281474976710656 % 256), .int .u8 ((y : Int) / 1099511627776 % 256), .int .u8 ((y : Int) / 4294967296 % 256), .int .u8 ((y : Int) / 16777216 % 256), .int .u8 ((y : Int) / 65536 % 256), .int .u8 ((y : Int) / 256 % 256), .int .u8 ((y : Int) % 256)] 69))) := k2.out.alloc _
  have l0 : Hid (w1.heap.size < (w1.alloc (.cells #[.int .u8 ((x : Int) / 72057594037927936), .int .u8 ((x : Int) / 281474976710656 % 256), .int .u8 ((x : Int) / 1099511627776 % 256), .int .u8 ((x : Int) / 4294967296 % 256), .int .u8 ((x : Int) / 16777216 % 256), .int .u8 ((x : Int) / 65536 % 256), .int .u8 ((x : Int) / 256 % 256), .int .u8 ((x : Int) % 256), .int .u8 ((y : Int) / 72057594037927936), .int .u8 ((y : Int) / 281474976710656 % 256), .int .u8 ((y : Int) / 1099511627776 % 256), .int .u8 ((y : Int) / 4294967296 % 256), .int .u8 ((y : Int) / 16777216 % 256), .int .u8 ((y : Int) / 65536 % 256), .int .u8 ((y : Int) / 256 % 256), .int .u8 ((y : Int) % 256)] 69)).heap.size) := by show w1.heap.size < _; simp
  unfold bytes16
  go_wp2_with fail
  generalize w1.alloc (.cells #[.int .u8 ((x : Int) / 72057594037927936), .int .u8 ((x : Int) / 281474976710656 % 256), .int .u8 ((x : Int) / 1099511627776 % 256), .int .u8 ((x : Int) / 4294967296 % 256), .int .u8 ((x : Int) / 16777216 % 256), .int .u8 ((x : Int) / 65536 % 256), .int .u8 ((x : Int) / 256 % 256), .int .u8 ((x : Int) % 256), .int .u8 ((y : Int) / 72057594037927936), .int .u8 ((y : Int) / 281474976710656 % 256), .int .u8 ((y : Int) / 1099511627776 % 256), .int .u8 ((y : Int) / 4294967296 % 256), .int .u8 ((y : Int) / 16777216 % 256), .int .u8 ((y : Int) / 65536 % 256), .int .u8 ((y : Int) / 256 % 256), .int .u8 ((y : Int) % 256)] 69) = W0 at *
  have ld : w1.heap.size < W0.drew.heap.size := l0.out
  have kk0 : Kept [] W0 W0.drew := (Kept.refl _ _).drew
  have xa0 := bb.out.1.kept kk0 l0.out (by simp)
  have ya0 := bb.out.2.kept kk0 l0.out (by simp)
  go_region_held3 (fun _ => True) (exact trivial)
    (first
    | (go_at_call 51; refine (be51k _ _ _ _ _ _ ?_ ?_ ?_ (by assumption)).mono ?_; assumption; omega; assumption; rintro e wa ⟨rfl, ka'⟩; have kk : Kept [] W0 wa := (by assumption : Kept [] W0 _).trans ka'; clear ka'; have sa : w1.heap.size < wa.heap.size := Nat.lt_of_lt_of_le l0.out kk.size; have xa := bb.out.1.kept kk l0.out (by simp); have ya := bb.out.2.kept kk l0.out (by simp)))
  have kf : Hid (Kept [] w wa) := k3.out.trans kk
  clear xa ya xa0 ya0 kk kk0
  go_wp2
  go_ret2
  exact ⟨rfl, kf⟩

/-- What is known of net/netip's two handles: two different pointers, into blocks of plain cells. -/
structure Zs (w : World) (p4 p6 : Addr) : Prop where
  l1 : 1 < w.heap.size
  l2 : 2 < w.heap.size
  c1 : w.cell? ⟨1, 0, none⟩ = some (.pointer (some p4))
  c2 : w.cell? ⟨2, 0, none⟩ = some (.pointer (some p6))
  ne : p6 ≠ p4
  b4 : ∃ c t, w.heap[p4.block]? = some (.cells c t (0, 0))
  b6 : ∃ c t, w.heap[p6.block]? = some (.cells c t (0, 0))
theorem Zs.below {w w' : World} {p4 p6 : Addr} (h : Zs w p4 p6) {B : Nat} (hb : Below B w w') (hB : w.heap.size ≤ B) : Zs w' p4 p6 := by
  obtain ⟨c, t, e⟩ := h.b4
  obtain ⟨c', t', e'⟩ := h.b6
  have m4 := (Array.getElem?_eq_some_iff.1 e).1
  have m6 := (Array.getElem?_eq_some_iff.1 e').1
  exact ⟨Nat.lt_of_lt_of_le h.l1 hb.size, Nat.lt_of_lt_of_le h.l2 hb.size, (hb.cell (p := ⟨1, 0, none⟩) (Nat.lt_of_lt_of_le h.l1 hB)).trans h.c1, (hb.cell (p := ⟨2, 0, none⟩) (Nat.lt_of_lt_of_le h.l2 hB)).trans h.c2, h.ne, ⟨c, t, (hb.block _ (Nat.lt_of_lt_of_le m4 hB)).trans e⟩, ⟨c', t', (hb.block _ (Nat.lt_of_lt_of_le m6 hB)).trans e'⟩⟩
theorem Zs.kept {w w' : World} {p4 p6 : Addr} (h : Zs w p4 p6) (k : Kept [] w w') : Zs w' p4 p6 := h.below (k.below (Nat.le_refl _) (by simp)) (Nat.le_refl _)
theorem size139 : (Ybad.prog.info? 139).map (·.size) = some 2 := by kernel_rfl
theorem info139 : ∃ j, Ybad.prog.info? 139 = some j ∧ j.size ≠ 0 := by
  obtain ⟨j, h1, h2⟩ := Option.map_eq_some_iff.1 size139
  exact ⟨j, h1, by omega⟩
theorem zs_eq {w : World} {p4 p6 : Addr} (h : Zs w p4 p6) : (Op.equalIn 9999 44 (.pointer (some p6)) (.pointer (some p4))).run Ybad.prog w = .ok false w := by
  obtain ⟨c, t, e⟩ := h.b4
  obtain ⟨c', t', e'⟩ := h.b6
  obtain ⟨j, hj, hz⟩ := info139
  have g : ∀ d : Nat, (Op.equalIn (d + 1) 44 (.pointer (some p6)) (.pointer (some p4))).run Ybad.prog w = .ok false w := fun d => by
    simp [Op.equalIn, run_underlying Ybad.underlying44, sizeOf, typeInfo, hj, hz, run_sameAddr_other w h.ne e' e]
  exact g 9998

set_option maxRecDepth 100000 in
theorem is4_not (x y : Value) (p4 p6 : Addr) (w : World) (h : Hid (Zs w p4 p6)) :
    Calls Ybad.prog 23 #[.agg #[x, y, .pointer (some p6)]] w fun e w' => e = .returned (.bool false) ∧ Hid (Kept [] w w') := by
  have hz := h.out.c1
  have h1 := h.out.l1
  have k : Hid (Kept [] w (w.alloc (.cells #[x, y, .pointer (some p6)] 48))) := (Kept.refl _ _).alloc _
  have he := zs_eq (h.out.kept k.out)
  go_enter Ybad.func23, Ybad.ntmps23
  go_wp2
  go_ret
  exact ⟨rfl, k⟩
end Go.Proofs.YbulkbnryDoor
