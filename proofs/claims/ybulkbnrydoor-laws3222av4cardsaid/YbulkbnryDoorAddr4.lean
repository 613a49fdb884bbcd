import Derived.Test.YbulkbnryDoorTag
import Derived.Test.YbulkbnryDoorShelf4
import Derived.WalkLawsBesides
import Derived.Deep.RegionHeld3
import Derived.LaidEqlPtr
namespace Go.Proofs.YbulkbnryDoor
open Go.RowKit
set_option linter.unusedSimpArgs false
set_option linter.unusedVariables false

theorem or_pow (k a b : Nat) (hb : b < 2 ^ k) (h : a * 2 ^ k + b < 18446744073709551616) : bits .or .u64 ((a * 2 ^ k : Nat) : Int) (b : Int) = ((a * 2 ^ k + b : Nat) : Int) := by
  show IntKind.u64.wrap (((BitVec.ofInt 64 ((a * 2 ^ k : Nat) : Int)) ||| (BitVec.ofInt 64 (b : Int))).toNat : Int) = _
  rw [BitVec.ofInt_natCast, BitVec.ofInt_natCast, BitVec.toNat_or, BitVec.toNat_ofNat, BitVec.toNat_ofNat, Nat.mod_eq_of_lt (by omega), Nat.mod_eq_of_lt (by omega)]
  have h1 := Nat.two_pow_add_eq_or_of_lt hb a
  rw [Nat.mul_comm] at h1
  rw [← h1, u64_wrap_id _ (by omega) (by omega)]
/-- What is known of net/netip's handle of an IPv4 address. -/
structure Z4 (w : World) (p4 : Addr) : Prop where
  l1 : 1 < w.heap.size
  c1 : w.cell? ⟨1, 0, none⟩ = some (.pointer (some p4))
theorem Z4.below {w w' : World} {p4 : Addr} (h : Z4 w p4) {B : Nat} (hb : Below B w w') (hB : w.heap.size ≤ B) : Z4 w' p4 :=
  ⟨Nat.lt_of_lt_of_le h.l1 hb.size, (hb.cell (p := ⟨1, 0, none⟩) (Nat.lt_of_lt_of_le h.l1 hB)).trans h.c1⟩
theorem Z4.kept {w w' : World} {p4 : Addr} (h : Z4 w p4) (k : Kept [] w w') : Z4 w' p4 := h.below (k.below (Nat.le_refl _) (by simp)) (Nat.le_refl _)
theorem z4_eq (w : World) (p4 : Addr) : (Op.equalIn 9999 44 (.pointer (some p4)) (.pointer (some p4))).run Ybad.prog w = .ok true w := by
  have g : ∀ d : Nat, (Op.equalIn (d + 1) 44 (.pointer (some p4)) (.pointer (some p4))).run Ybad.prog w = .ok true w := fun d => by
    simp [Op.equalIn, run_underlying Ybad.underlying44, run_sameAddr_same]
  exact g 9998
set_option maxRecDepth 100000 in
theorem is4_yes (x y : Value) (p4 : Addr) (w : World) (h : Hid (Z4 w p4)) :
    Calls Ybad.prog 23 #[.agg #[x, y, .pointer (some p4)]] w fun e w' => e = .returned (.bool true) ∧ Hid (Kept [] w w') := by
  have hz := h.out.c1
  have h1 := h.out.l1
  have k : Hid (Kept [] w (w.alloc (.cells #[x, y, .pointer (some p4)] 48))) := (Kept.refl _ _).alloc _
  have he := z4_eq (w.alloc (.cells #[x, y, .pointer (some p4)] 48)) p4
  go_enter Ybad.func23, Ybad.ntmps23
  go_wp2
  go_ret
  exact ⟨rfl, k⟩
theorem or_steps (a b c d lo : Nat) (ha : a ≤ 255) (hb : b ≤ 255) (hc : c ≤ 255) (hd : d ≤ 255) (hlo : lo = 281470681743360 + (a * 16777216 + b * 65536 + c * 256 + d)) : ∃ x1 x2 x3 : Int,
    bits .or .u64 281470681743360 ((a : Int) * 16777216) = x1 ∧ bits .or .u64 x1 ((b : Int) * 65536) = x2 ∧ bits .or .u64 x2 ((c : Int) * 256) = x3 ∧ bits .or .u64 x3 (d : Int) = (lo : Int) := by
  refine ⟨(((65535 * 256 + a) * 2 ^ 24 : Nat) : Int), ((((65535 * 256 + a) * 256 + b) * 2 ^ 16 : Nat) : Int), (((((65535 * 256 + a) * 256 + b) * 256 + c) * 2 ^ 8 : Nat) : Int), ?_, ?_, ?_, ?_⟩
  · have h := or_pow 32 65535 (a * 16777216) (by omega) (by omega)
    have e : ((65535 * 2 ^ 32 : Nat) : Int) = 281470681743360 := by decide
    rw [e] at h
    rw [show ((a : Int) * 16777216) = ((a * 16777216 : Nat) : Int) by omega, h]; omega
  · have h := or_pow 24 (65535 * 256 + a) (b * 65536) (by omega) (by omega)
    rw [show ((b : Int) * 65536) = ((b * 65536 : Nat) : Int) by omega, h]; omega
  · have h := or_pow 16 ((65535 * 256 + a) * 256 + b) (c * 256) (by omega) (by omega)
    rw [show ((c : Int) * 256) = ((c * 256 : Nat) : Int) by omega, h]; omega
  · have h := or_pow 8 (((65535 * 256 + a) * 256 + b) * 256 + c) d (by omega) (by omega)
    rw [h, hlo]; omega
set_option maxRecDepth 100000 in
set_option maxHeartbeats 1600000 in
theorem from4 (a b c d lo : Nat) (p4 : Addr) (w : World) (ha : a ≤ 255) (hb : b ≤ 255) (hc : c ≤ 255) (hd : d ≤ 255) (hlo : Hid (lo = 281470681743360 + (a * 16777216 + b * 65536 + c * 256 + d))) (h : Hid (Z4 w p4)) :
    Calls Ybad.prog 9 #[.agg #[.int .u8 a, .int .u8 b, .int .u8 c, .int .u8 d]] w fun e w' => e = .returned (.agg #[.int .u64 0, .int .u64 lo, .pointer (some p4)]) ∧ Hid (Kept [] w w') := by
  obtain ⟨x1, x2, x3, e1, e2, e3, e4⟩ := or_steps a b c d lo ha hb hc hd hlo.out
  have k0 : Hid (Kept [] w ((w.alloc (.cells #[.int .u8 a, .int .u8 b, .int .u8 c, .int .u8 d] 50)).alloc (.cells #[.int .u64 0, .int .u64 0, .pointer none] 48))) := ((Kept.refl _ _).alloc _).alloc _
  have hz2 : ((w.alloc (.cells #[.int .u8 a, .int .u8 b, .int .u8 c, .int .u8 d] 50)).alloc (.cells #[.int .u64 0, .int .u64 0, .pointer none] 48)).cell? ⟨1, 0, none⟩ = some (.pointer (some p4)) := (k0.out.cell 1 0 h.out.l1 (by simp)).trans h.out.c1
  go_enter Ybad.func9, Ybad.ntmps9
  go_wp2
  refine ⟨rfl, .agg #[.int .u64 0, .int .u64 lo, .pointer (some p4)], ?_, rfl, ((Kept.refl _ _).alloc _).alloc _⟩
  simp [results, Ybad.results9, go_sem]
/-- The four bytes of an address. -/
abbrev bytes4 (x : Nat) : Array Value := #[.int .u8 ((x : Int) / 16777216), .int .u8 ((x : Int) / 65536 % 256), .int .u8 ((x : Int) / 256 % 256), .int .u8 ((x : Int) % 256)]
/-- Behind the put of four bytes. -/
structure Put4 (w w' : World) (g x : Nat) : Prop where
  kept : Kept [g] w w'
  c0 : w'.cell? ⟨g, 0, none⟩ = some (.int .u8 ((x : Int) / 16777216))
  c1 : w'.cell? ⟨g, 1, none⟩ = some (.int .u8 ((x : Int) / 65536 % 256))
  c2 : w'.cell? ⟨g, 2, none⟩ = some (.int .u8 ((x : Int) / 256 % 256))
  c3 : w'.cell? ⟨g, 3, none⟩ = some (.int .u8 ((x : Int) % 256))
  frozen : ∀ j, w'.frozen? ⟨g, j, none⟩ = w.frozen? ⟨g, j, none⟩
set_option maxRecDepth 100000 in
set_option maxHeartbeats 1600000 in
theorem put47 (g x : Nat) (w : World) (hx : x < 4294967296) (c0 : w.cell? ⟨g, 0, none⟩ = some (.int .u8 0)) (c1 : w.cell? ⟨g, 1, none⟩ = some (.int .u8 0)) (c2 : w.cell? ⟨g, 2, none⟩ = some (.int .u8 0)) (c3 : w.cell? ⟨g, 3, none⟩ = some (.int .u8 0)) (hf : ∀ j, w.frozen? ⟨g, j, none⟩ = false) :
    Calls Ybad.prog 47 #[.slice (some ⟨g, 0, none⟩) 4 4, .int .u32 x] w fun e w' => e = .returned (.tuple #[]) ∧ Hid (Put4 w w' g x) := by
  have f0 := hf 0
  have f1 := hf 1
  have f2 := hf 2
  have f3 := hf 3
  have HP : Hid (Put4 w ((((w.setCell ⟨g, 0, none⟩ (.int .u8 ((x : Int) / 16777216))).setCell ⟨g, 1, none⟩ (.int .u8 ((x : Int) / 65536 % 256))).setCell ⟨g, 2, none⟩ (.int .u8 ((x : Int) / 256 % 256))).setCell ⟨g, 3, none⟩ (.int .u8 ((x : Int) % 256))) g x) := by
    refine ⟨((((Kept.refl _ _).setCell (p := ⟨g, 0, none⟩) (.inl (by simp)) _).setCell (p := ⟨g, 1, none⟩) (.inl (by simp)) _).setCell (p := ⟨g, 2, none⟩) (.inl (by simp)) _).setCell (p := ⟨g, 3, none⟩) (.inl (by simp)) _, ?_, ?_, ?_, ?_, fun j => by simp⟩ <;> go_simp
  clear hf
  go_enter Ybad.func47, Ybad.ntmps47
  go_wp2
  go_end0
  exact ⟨rfl, HP⟩
set_option maxRecDepth 100000 in
set_option maxHeartbeats 1600000 in
theorem as4 (x lo : Nat) (p4 : Addr) (w : World) (hx : x < 4294967296) (hlo : Hid (lo = 281470681743360 + x)) (h : Hid (Z4 w p4)) :
    Calls Ybad.prog 24 #[.agg #[.int .u64 0, .int .u64 lo, .pointer (some p4)]] w fun e w' => e = .returned (.agg (bytes4 x)) ∧ Hid (Kept [] w w') := by
  have hm : IntKind.u32.wrap (lo : Int) = (x : Int) := by rw [IntKind.wrap_u32, hlo.out]; omega
  have k0 : Hid (Kept [] w ((w.alloc (.cells #[.int .u64 0, .int .u64 lo, .pointer (some p4)] 48)).alloc (.cells #[.int .u8 0, .int .u8 0, .int .u8 0, .int .u8 0] 50))) := ((Kept.refl _ _).alloc _).alloc _
  have hz2 : ((w.alloc (.cells #[.int .u64 0, .int .u64 lo, .pointer (some p4)] 48)).alloc (.cells #[.int .u8 0, .int .u8 0, .int .u8 0, .int .u8 0] 50)).cell? ⟨1, 0, none⟩ = some (.pointer (some p4)) := (k0.out.cell 1 0 h.out.l1 (by simp)).trans h.out.c1
  have he := z4_eq ((w.alloc (.cells #[.int .u64 0, .int .u64 lo, .pointer (some p4)] 48)).alloc (.cells #[.int .u8 0, .int .u8 0, .int .u8 0, .int .u8 0] 50)) p4
  go_enter Ybad.func24, Ybad.ntmps24
  go_wp2_with fail
  clear he hz2
  obtain ⟨W0, hW0⟩ : ∃ W0, Hid (((w.alloc (.cells #[.int .u64 0, .int .u64 lo, .pointer (some p4)] 48)).alloc (.cells #[.int .u8 0, .int .u8 0, .int .u8 0, .int .u8 0] 50)) = W0) := ⟨_, rfl⟩
  rw [hW0.out]
  rw [hW0.out] at k0
  have q1 : W0.cell? ⟨w.heap.size, 1, none⟩ = some (.int .u64 lo) := by rw [← hW0.out]; go_simp
  have c0 : W0.drew.cell? ⟨w.heap.size + 1, 0, none⟩ = some (.int .u8 0) := by rw [← hW0.out]; go_simp
  have c1 : W0.drew.cell? ⟨w.heap.size + 1, 1, none⟩ = some (.int .u8 0) := by rw [← hW0.out]; go_simp
  have c2 : W0.drew.cell? ⟨w.heap.size + 1, 2, none⟩ = some (.int .u8 0) := by rw [← hW0.out]; go_simp
  have c3 : W0.drew.cell? ⟨w.heap.size + 1, 3, none⟩ = some (.int .u8 0) := by rw [← hW0.out]; go_simp
  have ff : Hid (∀ j, W0.drew.frozen? ⟨w.heap.size + 1, j, none⟩ = false) := fun j => by rw [← hW0.out]; go_simp
  have s0 : w.heap.size + 1 < W0.heap.size := by rw [← hW0.out]; simp
  have l0 : w.heap.size < W0.heap.size := by omega
  have C0 : Hid _ := c0
  have C1 : Hid _ := c1
  have C2 : Hid _ := c2
  have C3 : Hid _ := c3
  clear hW0 c0 c1 c2 c3
  go_region_held3 (fun W => W.cell? ⟨w.heap.size, 1, none⟩ = some (.int .u64 lo)) (first | (simp [go_sem, q1]; done) | (exact (pt.out.kept.cell w.heap.size 1 l0 (by simp)).trans q1))
    (first
    | (go_at_call 47; refine (put47 (w.heap.size + 1) x W0.drew hx C0.out C1.out C2.out C3.out ff.out).mono ?_; rintro e w1 ⟨rfl, pt⟩))
  have k1 : Hid (Kept [] w w1) := (k0.out.drew).then pt.out.kept (by simp)
  have a0 := pt.out.c0
  have a1 := pt.out.c1
  have a2 := pt.out.c2
  have a3 := pt.out.c3
  have f0 := (pt.out.frozen 0).trans (ff.out 0)
  have f1 := (pt.out.frozen 1).trans (ff.out 1)
  have f2 := (pt.out.frozen 2).trans (ff.out 2)
  have f3 := (pt.out.frozen 3).trans (ff.out 3)
  have k3 : Hid (Kept [] w ((((w1.setCell ⟨w.heap.size + 1, 0, none⟩ (.int .u8 ((x : Int) / 16777216))).setCell ⟨w.heap.size + 1, 1, none⟩ (.int .u8 ((x : Int) / 65536 % 256))).setCell ⟨w.heap.size + 1, 2, none⟩ (.int .u8 ((x : Int) / 256 % 256))).setCell ⟨w.heap.size + 1, 3, none⟩ (.int .u8 ((x : Int) % 256)))) :=
    (((k1.out.setCell (p := ⟨w.heap.size + 1, 0, none⟩) (.inr (by simp)) _).setCell (p := ⟨w.heap.size + 1, 1, none⟩) (.inr (by simp)) _).setCell (p := ⟨w.heap.size + 1, 2, none⟩) (.inr (by simp)) _).setCell (p := ⟨w.heap.size + 1, 3, none⟩) (.inr (by simp)) _
  clear q1 C0 C1 C2 C3 ff pt
  go_wp2
  refine ⟨rfl, .agg (bytes4 x), ?_, rfl, k3⟩
  simp [results, Ybad.results24, go_sem, a0, a1, a2, a3]
theorem be_nat (x : Nat) (hx : x < 4294967296) : Lib.beNat [UInt8.ofNat (x / 16777216), UInt8.ofNat (x / 65536 % 256), UInt8.ofNat (x / 256 % 256), UInt8.ofNat (x % 256)] = x := by
  simp [Lib.beNat, Lib.beFrom]
  omega
theorem be25 (g x : Nat) (w : World) (hx : x < 4294967296) (c0 : w.cell? ⟨g, 0, none⟩ = some (.int .u8 ((x : Int) / 16777216))) (c1 : w.cell? ⟨g, 1, none⟩ = some (.int .u8 ((x : Int) / 65536 % 256))) (c2 : w.cell? ⟨g, 2, none⟩ = some (.int .u8 ((x : Int) / 256 % 256))) (c3 : w.cell? ⟨g, 3, none⟩ = some (.int .u8 ((x : Int) % 256))) :
    Calls Ybad.prog 25 #[.agg #[], .slice (some ⟨g, 0, none⟩) 4 4] w fun e w' => e = .returned (.int .u32 x) ∧ Hid (Kept [] w w') := by
  have e0 : ((UInt8.ofNat (x / 16777216)).toNat : Int) = (x : Int) / 16777216 := by simp; omega
  have e1 : ((UInt8.ofNat (x / 65536 % 256)).toNat : Int) = (x : Int) / 65536 % 256 := by simp
  have e2 : ((UInt8.ofNat (x / 256 % 256)).toNat : Int) = (x : Int) / 256 % 256 := by simp
  have e3 : ((UInt8.ofNat (x % 256)).toNat : Int) = (x : Int) % 256 := by simp
  rw [← e0] at c0
  rw [← e1] at c1
  rw [← e2] at c2
  rw [← e3] at c3
  refine (Ybad.binary_BE_Uint32 g 0 4 4 _ _ _ _ w (by omega) c0 c1 c2 c3).mono fun e w' ⟨he, hb⟩ => ⟨?_, Kept.of_below hb⟩
  rw [he, be_nat x hx]
end Go.Proofs.YbulkbnryDoor
