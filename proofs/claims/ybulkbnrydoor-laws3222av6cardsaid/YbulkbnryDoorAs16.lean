import Derived.Test.YbulkbnryDoorAddr
namespace Go.Proofs.YbulkbnryDoor
open Go.RowKit
set_option linter.unusedSimpArgs false
set_option linter.unusedVariables false

/-- Behind a put. -/
structure Put (w w' : World) (g o v : Nat) : Prop where
  kept : Kept [g] w w'
  bytes : Bytes w' g o v
  other : ∀ j, j < o ∨ o + 8 ≤ j → w'.cell? ⟨g, j, none⟩ = w.cell? ⟨g, j, none⟩
  frozen : ∀ j, w'.frozen? ⟨g, j, none⟩ = w.frozen? ⟨g, j, none⟩
theorem put69k (g o n c v : Nat) (w : World) (hv : v < 18446744073709551616) (hn : 8 ≤ n) (hg : g < w.heap.size) (hr : Room w g o) :
    Calls Ybad.prog 69 #[.slice (some ⟨g, o, none⟩) n c, .int .u64 v] w fun e w' => e = .returned (.tuple #[]) ∧ Hid (Put w w' g o v) :=
  (put69 g o n c v w hv hn hg hr).mono fun e w' ⟨he, hw⟩ => ⟨he, by rw [hw]; exact ⟨putBytes_kept _ _ _ _, putBytes_bytes _ _ _ _ hr, fun j hj => putBytes_other _ _ _ _ _ hj, fun j => putBytes_frozen _ _ _ _ _⟩⟩
theorem put19k (g o n c v : Nat) (w : World) (hv : v < 18446744073709551616) (hn : 8 ≤ n) (hg : g < w.heap.size) (hr : Room w g o) :
    Calls Ybad.prog 19 #[.agg #[], .slice (some ⟨g, o, none⟩) n c, .int .u64 v] w fun e w' => e = .returned (.tuple #[]) ∧ Hid (Put w w' g o v) :=
  (put19 g o n c v w hv hn hg hr).mono fun e w' ⟨he, hw⟩ => ⟨he, by
    have k : Kept [] (putBytes w g o v) ((putBytes w g o v).alloc (.cells #[] 71)) := (Kept.refl _ _).alloc _
    have hg' : g < (putBytes w g o v).heap.size := Nat.lt_of_lt_of_le hg (putBytes_kept w g o v).size
    rw [hw]
    exact ⟨(putBytes_kept w g o v).trans (k.mono (by simp)), (putBytes_bytes _ _ _ _ hr).kept k hg' (by simp), fun j hj => (k.cell g j hg' (by simp)).trans (putBytes_other _ _ _ _ _ hj), fun j => (k.frozen g j hg' (by simp)).trans (putBytes_frozen _ _ _ _ _)⟩⟩
theorem Room.after {w w' : World} {g o v p : Nat} (h : Put w w' g o v) (hr : Room w g p) (hp : p + 8 ≤ o ∨ o + 8 ≤ p) : Room w' g p := by
  refine ⟨?_, ?_, ?_, ?_, ?_, ?_, ?_, ?_, ?_, ?_, ?_, ?_, ?_, ?_, ?_, ?_⟩
  all_goals first | rw [h.other _ (by omega)] | rw [h.frozen]
  · exact hr.r0
  · exact hr.r1
  · exact hr.r2
  · exact hr.r3
  · exact hr.r4
  · exact hr.r5
  · exact hr.r6
  · exact hr.r7
  · exact hr.z0
  · exact hr.z1
  · exact hr.z2
  · exact hr.z3
  · exact hr.z4
  · exact hr.z5
  · exact hr.z6
  · exact hr.z7
theorem Room.same {w w' : World} {g o v : Nat} (h : Put w w' g o v) (hr : Room w g o) : Room w' g o := by
  have b := h.bytes
  refine ⟨⟨_, b.c0⟩, ⟨_, b.c1⟩, ⟨_, b.c2⟩, ⟨_, b.c3⟩, ⟨_, b.c4⟩, ⟨_, b.c5⟩, ⟨_, b.c6⟩, ⟨_, b.c7⟩, ?_, ?_, ?_, ?_, ?_, ?_, ?_, ?_⟩ <;> rw [h.frozen]
  · exact hr.z0
  · exact hr.z1
  · exact hr.z2
  · exact hr.z3
  · exact hr.z4
  · exact hr.z5
  · exact hr.z6
  · exact hr.z7
theorem Bytes.after {w w' : World} {g o v p u : Nat} (h : Put w w' g o v) (b : Bytes w g p u) (hp : p + 8 ≤ o ∨ o + 8 ≤ p) : Bytes w' g p u := by
  refine ⟨?_, ?_, ?_, ?_, ?_, ?_, ?_, ?_⟩ <;> rw [h.other _ (by omega)]
  · exact b.c0
  · exact b.c1
  · exact b.c2
  · exact b.c3
  · exact b.c4
  · exact b.c5
  · exact b.c6
  · exact b.c7

theorem zero16_room (w : World) (o : Nat) (ho : o = 0 ∨ o = 8) : Room (w.alloc (.cells #[.int .u8 0, .int .u8 0, .int .u8 0, .int .u8 0, .int .u8 0, .int .u8 0, .int .u8 0, .int .u8 0, .int .u8 0, .int .u8 0, .int .u8 0, .int .u8 0, .int .u8 0, .int .u8 0, .int .u8 0, .int .u8 0] 69)) w.heap.size o := by
  rcases ho with rfl | rfl
  · refine ⟨⟨.int .u8 0, ?_⟩, ⟨.int .u8 0, ?_⟩, ⟨.int .u8 0, ?_⟩, ⟨.int .u8 0, ?_⟩, ⟨.int .u8 0, ?_⟩, ⟨.int .u8 0, ?_⟩, ⟨.int .u8 0, ?_⟩, ⟨.int .u8 0, ?_⟩, ?_, ?_, ?_, ?_, ?_, ?_, ?_, ?_⟩ <;> first | (rw [World.cell?_alloc_new]; rfl) | go_simp
  · refine ⟨⟨.int .u8 0, ?_⟩, ⟨.int .u8 0, ?_⟩, ⟨.int .u8 0, ?_⟩, ⟨.int .u8 0, ?_⟩, ⟨.int .u8 0, ?_⟩, ⟨.int .u8 0, ?_⟩, ⟨.int .u8 0, ?_⟩, ⟨.int .u8 0, ?_⟩, ?_, ?_, ?_, ?_, ?_, ?_, ?_, ?_⟩ <;> first | (rw [World.cell?_alloc_new]; rfl) | go_simp

set_option maxRecDepth 100000 in
set_option maxHeartbeats 3200000 in
theorem as16 (x y : Nat) (z : Value) (w : World) (hx : x < 18446744073709551616) (hy : y < 18446744073709551616) :
    Calls Ybad.prog 50 #[.agg #[.int .u64 x, .int .u64 y, z]] w fun e w' => e = .returned (.agg (bytes16 x y)) ∧ Hid (Kept [] w w') := by
  go_enter Ybad.func50, Ybad.ntmps50
  go_wp2_with fail
  obtain ⟨W0, hW0⟩ : ∃ W0, Hid (((w.alloc (.cells #[.int .u64 x, .int .u64 y, z] 48)).alloc (.cells #[.int .u8 0, .int .u8 0, .int .u8 0, .int .u8 0, .int .u8 0, .int .u8 0, .int .u8 0, .int .u8 0, .int .u8 0, .int .u8 0, .int .u8 0, .int .u8 0, .int .u8 0, .int .u8 0, .int .u8 0, .int .u8 0] 69)) = W0) := ⟨_, rfl⟩
  have k0 : Hid (Kept [] w W0) := by show Kept [] w W0; rw [← hW0.out]; exact ((Kept.refl _ _).alloc _).alloc _
  have q0 : W0.cell? ⟨w.heap.size, 0, none⟩ = some (.int .u64 x) := by rw [← hW0.out]; go_simp
  have q1 : W0.cell? ⟨w.heap.size, 1, none⟩ = some (.int .u64 y) := by rw [← hW0.out]; go_simp
  have s0 : W0.heap.size = w.heap.size + 2 := by rw [← hW0.out]; simp
  have rm0 : Room W0 (w.heap.size + 1) 0 := by have := zero16_room (w.alloc (.cells #[.int .u64 x, .int .u64 y, z] 48)) 0 (.inl rfl); rw [← hW0.out]; simpa using this
  have rm8 : Room W0 (w.heap.size + 1) 8 := by have := zero16_room (w.alloc (.cells #[.int .u64 x, .int .u64 y, z] 48)) 8 (.inr rfl); rw [← hW0.out]; simpa using this
  rw [hW0.out]
  clear hW0
  have l1 : w.heap.size + 1 < W0.heap.size := by omega
  have l0 : w.heap.size < W0.heap.size := by omega
  have RM8 : Hid _ := rm8
  have RM0 : Hid _ := rm0
  clear rm8 rm0
  have rd0 : Hid (Room W0.drew (w.heap.size + 1) 0) := ⟨RM0.out.r0, RM0.out.r1, RM0.out.r2, RM0.out.r3, RM0.out.r4, RM0.out.r5, RM0.out.r6, RM0.out.r7, RM0.out.z0, RM0.out.z1, RM0.out.z2, RM0.out.z3, RM0.out.z4, RM0.out.z5, RM0.out.z6, RM0.out.z7⟩
  have ld : w.heap.size + 1 < W0.drew.heap.size := l1
  go_region_held3 (fun W => W.cell? ⟨w.heap.size, 0, none⟩ = some (.int .u64 x)) (first | (simp [go_sem, q0]; done) | (exact (pt.out.kept.cell w.heap.size 0 l0 (by simp)).trans q0))
    (first
    | (go_at_call 69; refine (put69k (w.heap.size + 1) 0 8 16 x W0.drew hx (by omega) ld rd0.out).mono ?_; rintro e w1 ⟨rfl, pt⟩))
  have k1 : Hid (Kept [w.heap.size + 1] W0 w1) := ((Kept.refl _ W0).drew).trans pt.out.kept
  have rm1 : Hid (Room w1 (w.heap.size + 1) 8) := Room.after pt.out (o := 0) (w := W0.drew) ⟨RM8.out.r0, RM8.out.r1, RM8.out.r2, RM8.out.r3, RM8.out.r4, RM8.out.r5, RM8.out.r6, RM8.out.r7, RM8.out.z0, RM8.out.z1, RM8.out.z2, RM8.out.z3, RM8.out.z4, RM8.out.z5, RM8.out.z6, RM8.out.z7⟩ (by omega)
  have rm2 : Hid (Room w1 (w.heap.size + 1) 0) := Room.same pt.out rd0.out
  have bx1 : Hid (Bytes w1 (w.heap.size + 1) 0 x) := pt.out.bytes
  have q1' := (k1.out.cell w.heap.size 1 l0 (by simp)).trans q1
  clear q0 q1 rd0 ld RM8 RM0 pt
  have rd8 : Hid (Room w1.drew (w.heap.size + 1) 8) := ⟨rm1.out.r0, rm1.out.r1, rm1.out.r2, rm1.out.r3, rm1.out.r4, rm1.out.r5, rm1.out.r6, rm1.out.r7, rm1.out.z0, rm1.out.z1, rm1.out.z2, rm1.out.z3, rm1.out.z4, rm1.out.z5, rm1.out.z6, rm1.out.z7⟩
  have rd9 : Hid (Room w1.drew (w.heap.size + 1) 0) := ⟨rm2.out.r0, rm2.out.r1, rm2.out.r2, rm2.out.r3, rm2.out.r4, rm2.out.r5, rm2.out.r6, rm2.out.r7, rm2.out.z0, rm2.out.z1, rm2.out.z2, rm2.out.z3, rm2.out.z4, rm2.out.z5, rm2.out.z6, rm2.out.z7⟩
  have bx9 : Hid (Bytes w1.drew (w.heap.size + 1) 0 x) := ⟨bx1.out.c0, bx1.out.c1, bx1.out.c2, bx1.out.c3, bx1.out.c4, bx1.out.c5, bx1.out.c6, bx1.out.c7⟩
  have ld1 : w.heap.size + 1 < w1.drew.heap.size := Nat.lt_of_lt_of_le l1 k1.out.size
  have l01 : w.heap.size < w1.heap.size := Nat.lt_of_lt_of_le l0 k1.out.size
  go_wp2_with fail
  go_region_held3 (fun W => W.cell? ⟨w.heap.size, 1, none⟩ = some (.int .u64 y)) (first | (simp [go_sem, q1']; done) | (exact (pt.out.kept.cell w.heap.size 1 l01 (by simp)).trans q1'))
    (first
    | (go_at_call 69; refine (put69k (w.heap.size + 1) 8 8 8 y w1.drew hy (by omega) ld1 rd8.out).mono ?_; rintro e w2 ⟨rfl, pt⟩))
  have by2 : Hid (Bytes w2 (w.heap.size + 1) 8 y) := pt.out.bytes
  have bx2 : Hid (Bytes w2 (w.heap.size + 1) 0 x) := Bytes.after pt.out bx9.out (by omega)
  have ry := Room.same pt.out rd8.out
  have rx := Room.after pt.out rd9.out (by omega)
  have f0 : w2.frozen? ⟨w.heap.size + 1, 0, none⟩ = false := rx.z0
  have f1 : w2.frozen? ⟨w.heap.size + 1, 1, none⟩ = false := rx.z1
  have f2 : w2.frozen? ⟨w.heap.size + 1, 2, none⟩ = false := rx.z2
  have f3 : w2.frozen? ⟨w.heap.size + 1, 3, none⟩ = false := rx.z3
  have f4 : w2.frozen? ⟨w.heap.size + 1, 4, none⟩ = false := rx.z4
  have f5 : w2.frozen? ⟨w.heap.size + 1, 5, none⟩ = false := rx.z5
  have f6 : w2.frozen? ⟨w.heap.size + 1, 6, none⟩ = false := rx.z6
  have f7 : w2.frozen? ⟨w.heap.size + 1, 7, none⟩ = false := rx.z7
  have f8 : w2.frozen? ⟨w.heap.size + 1, 8, none⟩ = false := ry.z0
  have f9 : w2.frozen? ⟨w.heap.size + 1, 9, none⟩ = false := ry.z1
  have f10 : w2.frozen? ⟨w.heap.size + 1, 10, none⟩ = false := ry.z2
  have f11 : w2.frozen? ⟨w.heap.size + 1, 11, none⟩ = false := ry.z3
  have f12 : w2.frozen? ⟨w.heap.size + 1, 12, none⟩ = false := ry.z4
  have f13 : w2.frozen? ⟨w.heap.size + 1, 13, none⟩ = false := ry.z5
  have f14 : w2.frozen? ⟨w.heap.size + 1, 14, none⟩ = false := ry.z6
  have f15 : w2.frozen? ⟨w.heap.size + 1, 15, none⟩ = false := ry.z7
  have k2' : Hid (Kept [w.heap.size + 1] w1 w2) := ((Kept.refl _ w1).drew).trans pt.out.kept
  have k2 : Hid (Kept [] w w2) := (k0.out.then k1.out (by simp)).then k2'.out (by simp)
  have k3 : Hid (Kept [] w ((((((((((((((((w2.setCell ⟨w.heap.size + 1, 0, none⟩ (.int .u8 ((x : Int) / 72057594037927936))).setCell ⟨w.heap.size + 1, 1, none⟩ (.int .u8 ((x : Int) / 281474976710656 % 256))).setCell ⟨w.heap.size + 1, 2, none⟩ (.int .u8 ((x : Int) / 1099511627776 % 256))).setCell ⟨w.heap.size + 1, 3, none⟩ (.int .u8 ((x : Int) / 4294967296 % 256))).setCell ⟨w.heap.size + 1, 4, none⟩ (.int .u8 ((x : Int) / 16777216 % 256))).setCell ⟨w.heap.size + 1, 5, none⟩ (.int .u8 ((x : Int) / 65536 % 256))).setCell ⟨w.heap.size + 1, 6, none⟩ (.int .u8 ((x : Int) / 256 % 256))).setCell ⟨w.heap.size + 1, 7, none⟩ (.int .u8 ((x : Int) % 256))).setCell ⟨w.heap.size + 1, 8, none⟩ (.int .u8 ((y : Int) / 72057594037927936))).setCell ⟨w.heap.size + 1, 9, none⟩ (.int .u8 ((y : Int) / 281474976710656 % 256))).setCell ⟨w.heap.size + 1, 10, none⟩ (.int .u8 ((y : Int) / 1099511627776 % 256))).setCell ⟨w.heap.size + 1, 11, none⟩ (.int .u8 ((y : Int) / 4294967296 % 256))).setCell ⟨w.heap.size + 1, 12, none⟩ (.int .u8 ((y : Int) / 16777216 % 256))).setCell ⟨w.heap.size + 1, 13, none⟩ (.int .u8 ((y : Int) / 65536 % 256))).setCell ⟨w.heap.size + 1, 14, none⟩ (.int .u8 ((y : Int) / 256 % 256))).setCell ⟨w.heap.size + 1, 15, none⟩ (.int .u8 ((y : Int) % 256)))) := ((((((((((((((((k2.out.setCell (p := ⟨w.heap.size + 1, 0, none⟩) (.inr (by simp)) _).setCell (p := ⟨w.heap.size + 1, 1, none⟩) (.inr (by simp)) _).setCell (p := ⟨w.heap.size + 1, 2, none⟩) (.inr (by simp)) _).setCell (p := ⟨w.heap.size + 1, 3, none⟩) (.inr (by simp)) _).setCell (p := ⟨w.heap.size + 1, 4, none⟩) (.inr (by simp)) _).setCell (p := ⟨w.heap.size + 1, 5, none⟩) (.inr (by simp)) _).setCell (p := ⟨w.heap.size + 1, 6, none⟩) (.inr (by simp)) _).setCell (p := ⟨w.heap.size + 1, 7, none⟩) (.inr (by simp)) _).setCell (p := ⟨w.heap.size + 1, 8, none⟩) (.inr (by simp)) _).setCell (p := ⟨w.heap.size + 1, 9, none⟩) (.inr (by simp)) _).setCell (p := ⟨w.heap.size + 1, 10, none⟩) (.inr (by simp)) _).setCell (p := ⟨w.heap.size + 1, 11, none⟩) (.inr (by simp)) _).setCell (p := ⟨w.heap.size + 1, 12, none⟩) (.inr (by simp)) _).setCell (p := ⟨w.heap.size + 1, 13, none⟩) (.inr (by simp)) _).setCell (p := ⟨w.heap.size + 1, 14, none⟩) (.inr (by simp)) _).setCell (p := ⟨w.heap.size + 1, 15, none⟩) (.inr (by simp)) _)
  obtain ⟨a0, a1, a2, a3, a4, a5, a6, a7⟩ := bx2.out
  obtain ⟨a8, a9, a10, a11, a12, a13, a14, a15⟩ := by2.out
  clear rd8 rd9 bx9 ld1 q1' k2 rx ry pt
  simp only [Nat.zero_add, Nat.reduceAdd] at a1 a2 a3 a4 a5 a6 a7 a9 a10 a11 a12 a13 a14 a15
  go_wp2
  refine ⟨rfl, .agg (bytes16 x y), ?_, rfl, k3⟩
  simp [results, Ybad.results50, go_sem, bytes16, a0, a1, a2, a3, a4, a5, a6, a7, a8, a9, a10, a11, a12, a13, a14, a15]
end Go.Proofs.YbulkbnryDoor
