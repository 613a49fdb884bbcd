import Derived.Test.YbulkbnryDoorCmp
import Derived.Test.YbulkbnryDoorKept
namespace Go.Proofs.YbulkbnryDoor
open Go.RowKit Go.Sort

/-- A network: its first address, its place. -/
structure Net where
  hi : Int
  lo : Int
  place : Int
instance : Inhabited Net := ⟨⟨0, 0, 0⟩⟩
def enc6 (x : Net) : List Value := [.int .u64 x.hi, .int .u64 x.lo, .int .i64 x.place]
def cf14 (x y : Net) : Int := orL [cmpI x.hi y.hi, cmpI x.lo y.lo, cmpI x.place y.place]
def cf53 (x y : Net) : Int := orL [cmpI x.hi y.hi, cmpI x.lo y.lo]

theorem three (w : World) (b : Nat) (x y z : Int) (hb : b = w.heap.size) : ∀ i, i < [x, y, z].length → (w.alloc (.cells #[.int .i64 x, .int .i64 y, .int .i64 z] 3)).cell? ⟨b, i, none⟩ = some (.int .i64 ([x, y, z].getD i 0)) := by
  intro i hi
  subst hb
  rw [World.cell?_alloc_new]
  have h3 : i = 0 ∨ i = 1 ∨ i = 2 := by simp at hi; omega
  rcases h3 with rfl | rfl | rfl <;> rfl
theorem two (w : World) (b : Nat) (x y : Int) (hb : b = w.heap.size) : ∀ i, i < [x, y].length → (w.alloc (.cells #[.int .i64 x, .int .i64 y] 3)).cell? ⟨b, i, none⟩ = some (.int .i64 ([x, y].getD i 0)) := by
  intro i hi
  subst hb
  rw [World.cell?_alloc_new]
  have h3 : i = 0 ∨ i = 1 := by simp at hi; omega
  rcases h3 with rfl | rfl <;> rfl

set_option maxRecDepth 100000 in
set_option maxHeartbeats 1600000 in
theorem closure14 (x y : Net) (W : World) :
    Calls Ybad.prog 14 #[.agg #[.int .u64 x.hi, .int .u64 x.lo, .int .i64 x.place], .agg #[.int .u64 y.hi, .int .u64 y.lo, .int .i64 y.place]] W fun e w' => e = .returned (.int .i64 (cf14 x y)) ∧ ∃ q os', w' = grow (W.drewN q) os' := by
  unfold cf14
  obtain ⟨xh, xl, xp⟩ := x
  obtain ⟨yh, yl, yp⟩ := y
  simp only
  go_enter Ybad.func14, Ybad.ntmps14
  go_wp2_with fail
  obtain ⟨W0, hW0⟩ : ∃ W0, Hid (((W.alloc (.cells #[.int .u64 xh, .int .u64 xl, .int .i64 xp] 61)).alloc (.cells #[.int .u64 yh, .int .u64 yl, .int .i64 yp] 61)) = W0) := ⟨_, rfl⟩
  have q0 : W0.cell? ⟨W.heap.size, 0, none⟩ = some (.int .u64 xh) := by rw [← hW0.out]; go_simp
  have q1 : W0.cell? ⟨W.heap.size, 1, none⟩ = some (.int .u64 xl) := by rw [← hW0.out]; go_simp
  have q2 : W0.cell? ⟨W.heap.size, 2, none⟩ = some (.int .i64 xp) := by rw [← hW0.out]; go_simp
  have q3 : W0.cell? ⟨W.heap.size + 1, 0, none⟩ = some (.int .u64 yh) := by rw [← hW0.out]; go_simp
  have q4 : W0.cell? ⟨W.heap.size + 1, 1, none⟩ = some (.int .u64 yl) := by rw [← hW0.out]; go_simp
  have q5 : W0.cell? ⟨W.heap.size + 1, 2, none⟩ = some (.int .i64 yp) := by rw [← hW0.out]; go_simp
  have hs0 : W0.heap.size = W.heap.size + 2 := by rw [← hW0.out]; simp
  have l0 : W.heap.size < W0.heap.size := by omega
  have l1 : W.heap.size + 1 < W0.heap.size := by omega
  rw [hW0.out]
  clear hs0
  have n0 := World.new_ne W0 _ q0
  have n1 := World.new_ne W0 _ q1
  have n2 := World.new_ne W0 _ q2
  have n3 := World.new_ne W0 _ q3
  have n4 := World.new_ne W0 _ q4
  have n5 := World.new_ne W0 _ q5
  go_region_held3 (fun w => w.cell? ⟨W.heap.size, 0, none⟩ = some (.int .u64 xh) ∧ w.cell? ⟨W.heap.size, 1, none⟩ = some (.int .u64 xl) ∧ w.cell? ⟨W.heap.size, 2, none⟩ = some (.int .i64 xp) ∧ w.cell? ⟨W.heap.size + 1, 0, none⟩ = some (.int .u64 yh) ∧ w.cell? ⟨W.heap.size + 1, 1, none⟩ = some (.int .u64 yl) ∧ w.cell? ⟨W.heap.size + 1, 2, none⟩ = some (.int .i64 yp)) (first | go_keep | (simp [go_sem, q0, q1, q2, q3, q4, q5]; done) | (refine ⟨?_, ?_, ?_, ?_, ?_, ?_⟩ <;> (rw [old_cell _ _ _ _ _ (by omega)]; assumption)))
    (first
    | (go_at_call 16; refine (compare64 _ _ _).mono ?_; rintro e w' ⟨rfl, rfl⟩)
    | (go_at_call 17; refine (compareInt _ _ _).mono ?_; rintro e w' ⟨rfl, rfl⟩)
    | (go_at_call 15; refine (or_any W0.heap.size [cmpI xh yh, cmpI xl yl, cmpI xp yp] 3 3 _ rfl (by omega) (three (W0.drewN 1) W0.heap.size _ _ _ rfl)).mono ?_; rintro e w' ⟨rfl, rfl⟩))
  go_wp2
  go_ret
  refine ⟨rfl, 1, #[.cells #[.int .u64 xh, .int .u64 xl, .int .i64 xp] 61, .cells #[.int .u64 yh, .int .u64 yl, .int .i64 yp] 61, .cells #[.int .i64 (cmpI xh yh), .int .i64 (cmpI xl yl), .int .i64 (cmpI xp yp)] 3], ?_⟩
  rw [← hW0.out, alloc_eq_grow, alloc_eq_grow, alloc_eq_grow, grow_grow]
  simp [grow, World.drewN]
  exact ⟨rfl, rfl, rfl⟩
set_option maxRecDepth 100000 in
set_option maxHeartbeats 1600000 in
theorem closure53 (x y : Net) (W : World) :
    Calls Ybad.prog 53 #[.agg #[.int .u64 x.hi, .int .u64 x.lo, .int .i64 x.place], .agg #[.int .u64 y.hi, .int .u64 y.lo, .int .i64 y.place]] W fun e w' => e = .returned (.int .i64 (cf53 x y)) ∧ ∃ q os', w' = grow (W.drewN q) os' := by
  unfold cf53
  obtain ⟨xh, xl, xp⟩ := x
  obtain ⟨yh, yl, yp⟩ := y
  simp only
  go_enter Ybad.func53, Ybad.ntmps53
  go_wp2_with fail
  obtain ⟨W0, hW0⟩ : ∃ W0, Hid (((W.alloc (.cells #[.int .u64 xh, .int .u64 xl, .int .i64 xp] 61)).alloc (.cells #[.int .u64 yh, .int .u64 yl, .int .i64 yp] 61)) = W0) := ⟨_, rfl⟩
  have q0 : W0.cell? ⟨W.heap.size, 0, none⟩ = some (.int .u64 xh) := by rw [← hW0.out]; go_simp
  have q1 : W0.cell? ⟨W.heap.size, 1, none⟩ = some (.int .u64 xl) := by rw [← hW0.out]; go_simp
  have q2 : W0.cell? ⟨W.heap.size, 2, none⟩ = some (.int .i64 xp) := by rw [← hW0.out]; go_simp
  have q3 : W0.cell? ⟨W.heap.size + 1, 0, none⟩ = some (.int .u64 yh) := by rw [← hW0.out]; go_simp
  have q4 : W0.cell? ⟨W.heap.size + 1, 1, none⟩ = some (.int .u64 yl) := by rw [← hW0.out]; go_simp
  have q5 : W0.cell? ⟨W.heap.size + 1, 2, none⟩ = some (.int .i64 yp) := by rw [← hW0.out]; go_simp
  have hs0 : W0.heap.size = W.heap.size + 2 := by rw [← hW0.out]; simp
  have l0 : W.heap.size < W0.heap.size := by omega
  have l1 : W.heap.size + 1 < W0.heap.size := by omega
  rw [hW0.out]
  clear hs0
  have n0 := World.new_ne W0 _ q0
  have n1 := World.new_ne W0 _ q1
  have n2 := World.new_ne W0 _ q2
  have n3 := World.new_ne W0 _ q3
  have n4 := World.new_ne W0 _ q4
  have n5 := World.new_ne W0 _ q5
  go_region_held3 (fun w => w.cell? ⟨W.heap.size, 0, none⟩ = some (.int .u64 xh) ∧ w.cell? ⟨W.heap.size, 1, none⟩ = some (.int .u64 xl) ∧ w.cell? ⟨W.heap.size, 2, none⟩ = some (.int .i64 xp) ∧ w.cell? ⟨W.heap.size + 1, 0, none⟩ = some (.int .u64 yh) ∧ w.cell? ⟨W.heap.size + 1, 1, none⟩ = some (.int .u64 yl) ∧ w.cell? ⟨W.heap.size + 1, 2, none⟩ = some (.int .i64 yp)) (first | go_keep | (simp [go_sem, q0, q1, q2, q3, q4, q5]; done) | (refine ⟨?_, ?_, ?_, ?_, ?_, ?_⟩ <;> (rw [old_cell _ _ _ _ _ (by omega)]; assumption)))
    (first
    | (go_at_call 16; refine (compare64 _ _ _).mono ?_; rintro e w' ⟨rfl, rfl⟩)
    | (go_at_call 15; refine (or_any W0.heap.size [cmpI xh yh, cmpI xl yl] 2 2 _ rfl (by omega) (two (W0.drewN 1) W0.heap.size _ _ rfl)).mono ?_; rintro e w' ⟨rfl, rfl⟩))
  go_wp2
  go_ret
  refine ⟨rfl, 1, #[.cells #[.int .u64 xh, .int .u64 xl, .int .i64 xp] 61, .cells #[.int .u64 yh, .int .u64 yl, .int .i64 yp] 61, .cells #[.int .i64 (cmpI xh yh), .int .i64 (cmpI xl yl)] 3], ?_⟩
  rw [← hW0.out, alloc_eq_grow, alloc_eq_grow, alloc_eq_grow, grow_grow]
  simp [grow, World.drewN]
  exact ⟨rfl, rfl, rfl⟩

theorem cmpI_neg (x y : Int) : cmpI x y < 0 ↔ x < y := by
  unfold cmpI
  by_cases h1 : x < y
  · simp [h1]
  · by_cases h2 : y < x <;> simp [h1, h2]
theorem cmpI_zero (x y : Int) : cmpI x y = 0 ↔ x = y := by
  unfold cmpI
  by_cases h1 : x < y
  · simp [h1]; omega
  · by_cases h2 : y < x <;> simp [h1, h2] <;> omega
theorem cf53_neg (x y : Net) : cf53 x y < 0 ↔ x.hi < y.hi ∨ (x.hi = y.hi ∧ x.lo < y.lo) := by
  unfold cf53 orL orL orL
  have a := cmpI_neg x.hi y.hi
  have b := cmpI_zero x.hi y.hi
  have c := cmpI_neg x.lo y.lo
  have e := cmpI_zero x.lo y.lo
  split
  · omega
  · split <;> omega
theorem cf53_zero (x y : Net) : cf53 x y = 0 ↔ x.hi = y.hi ∧ x.lo = y.lo := by
  unfold cf53 orL orL orL
  have b := cmpI_zero x.hi y.hi
  have e := cmpI_zero x.lo y.lo
  split
  · omega
  · split <;> omega
theorem lt14 (x y : Net) : ltOf cf14 x y = true ↔ x.hi < y.hi ∨ (x.hi = y.hi ∧ (x.lo < y.lo ∨ (x.lo = y.lo ∧ x.place < y.place))) := by
  unfold ltOf cf14 orL orL orL orL
  have a := cmpI_neg x.hi y.hi
  have b := cmpI_zero x.hi y.hi
  have c := cmpI_neg x.lo y.lo
  have e := cmpI_zero x.lo y.lo
  have f := cmpI_neg x.place y.place
  have g := cmpI_zero x.place y.place
  rw [decide_eq_true_iff]
  split
  · omega
  · split
    · omega
    · split <;> omega
theorem nlt14 (x y : Net) : ltOf cf14 x y = false ↔ ¬ (x.hi < y.hi ∨ (x.hi = y.hi ∧ (x.lo < y.lo ∨ (x.lo = y.lo ∧ x.place < y.place)))) := by
  rw [← lt14, Bool.not_eq_true]
theorem swo14 : SWO (ltOf cf14) where
  irrefl x := by rw [nlt14]; omega
  trans x y z h1 h2 := by rw [lt14] at *; omega
  ntrans x y z h1 h2 := by rw [nlt14] at *; omega
theorem tot14 (x y : Net) (h1 : ltOf cf14 x y = false) (h2 : ltOf cf14 y x = false) : x = y := by
  rw [nlt14] at h1 h2
  obtain ⟨a, b, c⟩ := x
  obtain ⟨d, e, f⟩ := y
  simp only [Net.mk.injEq]
  simp only at h1 h2
  omega
end Go.Proofs.YbulkbnryDoor
