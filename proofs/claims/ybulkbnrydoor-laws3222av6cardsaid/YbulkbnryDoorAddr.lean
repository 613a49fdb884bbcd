import Derived.Test.YbulkbnryDoorPut
import Derived.Deep.RegionHeld3
namespace Go.Proofs.YbulkbnryDoor
open Go.RowKit
set_option linter.unusedSimpArgs false
set_option linter.unusedVariables false

theorem Bytes.kept {S : List Nat} {w w' : World} {g o v : Nat} (h : Bytes w g o v) (k : Kept S w w') (hg : g < w.heap.size) (hs : g ∉ S) : Bytes w' g o v :=
  ⟨(k.cell g _ hg hs).trans h.c0, (k.cell g _ hg hs).trans h.c1, (k.cell g _ hg hs).trans h.c2, (k.cell g _ hg hs).trans h.c3, (k.cell g _ hg hs).trans h.c4, (k.cell g _ hg hs).trans h.c5, (k.cell g _ hg hs).trans h.c6, (k.cell g _ hg hs).trans h.c7⟩
theorem set_other2 (w : World) (g h p j : Nat) (v : Value) (hn : ¬ h = g) : (w.setCell ⟨g, p, none⟩ v).cell? ⟨h, j, none⟩ = w.cell? ⟨h, j, none⟩ :=
  World.cell?_setCell_other w _ _ v (fun e => hn (Addr.mk.inj e).1.symm)
theorem be34k (g o n c v : Nat) (w : World) (hv : v < 18446744073709551616) (hn : 8 ≤ n) (hg : g < w.heap.size) (hb : Bytes w g o v) :
    Calls Ybad.prog 34 #[.slice (some ⟨g, o, none⟩) n c] w fun e w' => e = .returned (.int .u64 v) ∧ Kept [] w w' :=
  (be34 g o n c v w hv hn hg hb).mono fun e w' ⟨he, k, hw⟩ => ⟨he, by rw [hw]; exact (Kept.refl _ _).drewN k⟩
theorem be51k (g o n c v : Nat) (w : World) (hv : v < 18446744073709551616) (hn : 8 ≤ n) (hg : g < w.heap.size) (hb : Bytes w g o v) :
    Calls Ybad.prog 51 #[.agg #[], .slice (some ⟨g, o, none⟩) n c] w fun e w' => e = .returned (.int .u64 v) ∧ Kept [] w w' :=
  (be51 g o n c v w hv hn hg hb).mono fun e w' ⟨he, k, hw⟩ => ⟨he, by rw [hw]; exact ((Kept.refl _ _).alloc _).drewN k⟩
/-- The sixteen bytes of an address. -/
def bytes16 (x y : Nat) : Array Value := #[.int .u8 ((x : Int) / 72057594037927936), .int .u8 ((x : Int) / 281474976710656 % 256), .int .u8 ((x : Int) / 1099511627776 % 256), .int .u8 ((x : Int) / 4294967296 % 256), .int .u8 ((x : Int) / 16777216 % 256), .int .u8 ((x : Int) / 65536 % 256), .int .u8 ((x : Int) / 256 % 256), .int .u8 ((x : Int) % 256), .int .u8 ((y : Int) / 72057594037927936), .int .u8 ((y : Int) / 281474976710656 % 256), .int .u8 ((y : Int) / 1099511627776 % 256), .int .u8 ((y : Int) / 4294967296 % 256), .int .u8 ((y : Int) / 16777216 % 256), .int .u8 ((y : Int) / 65536 % 256), .int .u8 ((y : Int) / 256 % 256), .int .u8 ((y : Int) % 256)]
theorem bytes16_at (w : World) (x y : Nat) : Bytes (w.alloc (.cells (bytes16 x y) 69)) w.heap.size 0 x ∧ Bytes (w.alloc (.cells (bytes16 x y) 69)) w.heap.size 8 y := by
  refine ⟨⟨?_, ?_, ?_, ?_, ?_, ?_, ?_, ?_⟩, ⟨?_, ?_, ?_, ?_, ?_, ?_, ?_, ?_⟩⟩ <;> (rw [World.cell?_alloc_new]; rfl)

set_option maxRecDepth 100000 in
set_option maxHeartbeats 3200000 in
theorem from16 (x y : Nat) (p6 : Addr) (w : World) (hx : x < 18446744073709551616) (hy : y < 18446744073709551616) (h2 : 2 < w.heap.size) (hz : w.cell? ⟨2, 0, none⟩ = some (.pointer (some p6))) :
    Calls Ybad.prog 20 #[.agg (bytes16 x y)] w fun e w' => e = .returned (.agg #[.int .u64 x, .int .u64 y, .pointer (some p6)]) ∧ Hid (Kept [] w w') := by
  go_enter Ybad.func20, Ybad.ntmps20
  go_wp2_with fail
  obtain ⟨W0, hW0⟩ : ∃ W0, Hid (((w.alloc (.cells (bytes16 x y) 69)).alloc (.cells #[.int .u64 0, .int .u64 0, .pointer none] 48)) = W0) := ⟨_, rfl⟩
  have k0 : Hid (Kept [] w W0) := by show Kept [] w W0; rw [← hW0.out]; exact ((Kept.refl _ _).alloc _).alloc _
  have kb : Kept [] (w.alloc (.cells (bytes16 x y) 69)) W0 := by rw [← hW0.out]; exact (Kept.refl _ _).alloc _
  have bx : Hid (Bytes W0 w.heap.size 0 x) := (bytes16_at w x y).1.kept kb (by simp) (by simp)
  have by' : Hid (Bytes W0 w.heap.size 8 y) := (bytes16_at w x y).2.kept kb (by simp) (by simp)
  have hz0 : W0.cell? ⟨2, 0, none⟩ = some (.pointer (some p6)) := (k0.out.cell 2 0 h2 (by simp)).trans hz
  have r0 : W0.cell? ⟨w.heap.size + 1, 0, none⟩ = some (.int .u64 0) := by rw [← hW0.out]; go_simp
  have r1 : W0.cell? ⟨w.heap.size + 1, 1, none⟩ = some (.int .u64 0) := by rw [← hW0.out]; go_simp
  have r2 : W0.cell? ⟨w.heap.size + 1, 2, none⟩ = some (.pointer none) := by rw [← hW0.out]; go_simp
  have f0 : W0.frozen? ⟨w.heap.size + 1, 0, none⟩ = false := by rw [← hW0.out]; go_simp
  have f1 : W0.frozen? ⟨w.heap.size + 1, 1, none⟩ = false := by rw [← hW0.out]; go_simp
  have f2 : W0.frozen? ⟨w.heap.size + 1, 2, none⟩ = false := by rw [← hW0.out]; go_simp
  have s0 : W0.heap.size = w.heap.size + 2 := by rw [← hW0.out]; simp
  rw [hW0.out]
  clear hW0 kb
  have ne2 : ¬ 2 = w.heap.size + 1 := by omega
  have l0 : w.heap.size < W0.heap.size := by omega
  have l2 : 2 < W0.heap.size := by omega
  have l1 : w.heap.size + 1 < W0.heap.size := by omega
  have kk0 : Kept [] W0 (W0.drewN 1) := (Kept.refl [] W0).drewN 1
  have xa0 := bx.out.kept kk0 l0 (by simp)
  have ya0 := by'.out.kept kk0 l0 (by simp)
  have sa0 : w.heap.size < (W0.drewN 1).heap.size := l0
  go_region_held3 (fun W => W.cell? ⟨2, 0, none⟩ = some (.pointer (some p6))) (first | (simp [go_sem, hz0, ne2]; done) | assumption | (rw [set_other2 _ _ _ _ _ _ ne2, set_other2 _ _ _ _ _ _ ne2, set_other2 _ _ _ _ _ _ ne2]; assumption))
    (first
    | (go_at_call 34; refine (be34k _ _ _ _ _ _ ?_ ?_ ?_ (by assumption)).mono ?_; assumption; omega; assumption; rintro e wa ⟨rfl, ka'⟩; have kk : Kept [] W0 wa := (by assumption : Kept [] W0 _).trans ka'; clear ka'; have zc := (kk.cell 2 0 l2 (by simp)).trans hz0; have g0 := (kk.cell _ _ l1 (by simp)).trans r0; have g1 := (kk.cell _ _ l1 (by simp)).trans r1; have g2 := (kk.cell _ _ l1 (by simp)).trans r2; have i0 := (kk.frozen _ _ l1 (by simp)).trans f0; have i1 := (kk.frozen _ _ l1 (by simp)).trans f1; have i2 := (kk.frozen _ _ l1 (by simp)).trans f2; have sa : w.heap.size < wa.heap.size := Nat.lt_of_lt_of_le l0 kk.size; have xa := bx.out.kept kk l0 (by simp); have ya := by'.out.kept kk l0 (by simp)))
  have kf : Hid (Kept [] w (((wa.setCell ⟨w.heap.size + 1, 0, none⟩ (.int .u64 x)).setCell ⟨w.heap.size + 1, 1, none⟩ (.int .u64 y)).setCell ⟨w.heap.size + 1, 2, none⟩ (.pointer (some p6)))) :=
    (((k0.out.trans kk).setCell (p := ⟨w.heap.size + 1, 0, none⟩) (.inr (by simp)) _).setCell (p := ⟨w.heap.size + 1, 1, none⟩) (.inr (by simp)) _).setCell (p := ⟨w.heap.size + 1, 2, none⟩) (.inr (by simp)) _
  clear xa ya xa0 ya0 kk kk0
  go_wp2
  refine ⟨rfl, .agg #[.int .u64 x, .int .u64 y, .pointer (some p6)], ?_, rfl, kf⟩
  simp [results, Ybad.results20, go_sem, g0, g1, g2]

end Go.Proofs.YbulkbnryDoor
