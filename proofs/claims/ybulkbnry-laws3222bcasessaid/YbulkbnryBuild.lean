import Derived.Test.YbulkbnryNode
import Derived.Deep.RegionHeld3
import Derived.Deep.RegionWith
namespace Go.Proofs.Ybulkbnry
open Go.RowKit
set_option linter.unusedSimpArgs false

def S0 : Int := sumF 1 0 64 true 0 0
def S1 : Int := sumF 2 0 64 true 0 0
/-- The sum of the leaf that s picks. -/
def sumP (s : Int) : Int := if s % 3 = 0 then 0 else if s % 3 = 1 then S0 else S1
def L (b : Nat) : Option Addr := some ⟨b, 0, none⟩

theorem SumAt.pick {w : World} {l0 l1 : Nat} {hi lo n hi' lo' n' : Int} {net net' : Bool} {p0 p1 p0' p1' : Option Addr}
    (h : NodeAt w l0 hi lo n net p0 p1 S0) (k : NodeAt w l1 hi' lo' n' net' p0' p1' S1) (s : Int) : SumAt w (pickF s (some ⟨l0, 0, none⟩) (some ⟨l1, 0, none⟩)) (sumP s) := by
  unfold pickF sumP
  by_cases a : s % 3 = 0
  · simp only [a, if_true]; exact .inl ⟨rfl, rfl⟩
  · by_cases b : s % 3 = 1
    · rw [if_neg a, if_pos b, if_neg a, if_pos b]; exact .inr ⟨l0, rfl, h.c6⟩
    · simp only [a, b, if_false]; exact .inr ⟨l1, rfl, k.c6⟩

theorem NodeAt.set {w : World} {b : Nat} {hi lo n : Int} {net : Bool} {p0 p1 : Option Addr} {s : Int} (h : NodeAt w b hi lo n net p0 p1 s) (x o : Nat) (v : Value) (hx : x < b) :
    NodeAt (w.setCell ⟨x, o, none⟩ v) b hi lo n net p0 p1 s := by
  have ne : ∀ i, (⟨x, o, none⟩ : Addr) ≠ ⟨b, i, none⟩ := fun i hi => by injection hi with h1 _; omega
  refine ⟨?_, ?_, ?_, ?_, ?_, ?_, ?_, h.blk.set _ _⟩
  · rw [World.cell?_setCell_other _ _ _ _ (ne 0)]; exact h.c0
  · rw [World.cell?_setCell_other _ _ _ _ (ne 1)]; exact h.c1
  · rw [World.cell?_setCell_other _ _ _ _ (ne 2)]; exact h.c2
  · rw [World.cell?_setCell_other _ _ _ _ (ne 3)]; exact h.c3
  · rw [World.cell?_setCell_other _ _ _ _ (ne 4)]; exact h.c4
  · rw [World.cell?_setCell_other _ _ _ _ (ne 5)]; exact h.c5
  · rw [World.cell?_setCell_other _ _ _ _ (ne 6)]; exact h.c6

theorem two_cells (w : World) (N : Nat) (p q u v : Value) (o : Obj) (h0 : w.cell? ⟨N, 0, none⟩ = some u) (h1 : w.cell? ⟨N, 1, none⟩ = some v) :
    (((w.setCell ⟨N, 0, none⟩ p).setCell ⟨N, 1, none⟩ q).alloc o).cell? ⟨N, 0, none⟩ = some p ∧ (((w.setCell ⟨N, 0, none⟩ p).setCell ⟨N, 1, none⟩ q).alloc o).cell? ⟨N, 1, none⟩ = some q := by
  have hN : N < w.heap.size := World.block_lt_of_cell? _ _ h0
  have n01 : (⟨N, 0, none⟩ : Addr) ≠ ⟨N, 1, none⟩ := fun h => by injection h with _ h; cases h
  have e1 : (w.setCell ⟨N, 0, none⟩ p).cell? ⟨N, 1, none⟩ = some v := by rw [World.cell?_setCell_other _ _ _ _ n01]; exact h1
  refine ⟨?_, ?_⟩
  · rw [World.cell?_alloc_lt _ _ _ (by simpa using hN), World.cell?_setCell_other _ _ _ _ n01.symm]
    exact World.cell?_setCell_same _ _ _ h0
  · rw [World.cell?_alloc_lt _ _ _ (by simpa using hN)]
    exact World.cell?_setCell_same _ _ _ e1

set_option maxHeartbeats 1000000 in
theorem build_any (netA netB : Bool) (a0 a1 b0 b1 s0 s1 hi lo n : Int) (w : World) (ha0 : 0 ≤ a0 ∧ a0 ≤ 255) (ha1 : 0 ≤ a1 ∧ a1 ≤ 255) (hb0 : 0 ≤ b0 ∧ b0 ≤ 255) (hb1 : 0 ≤ b1 ∧ b1 ≤ 255)
    (hs0 : 0 ≤ s0 ∧ s0 ≤ 255) (hs1 : 0 ≤ s1 ∧ s1 ≤ 255) (hn : 0 ≤ n ∧ n ≤ 255) :
    Calls Yba.prog 5 #[.bool netA, .bool netB, .int .u8 a0, .int .u8 a1, .int .u8 b0, .int .u8 b1, .int .u8 s0, .int .u8 s1, .int .u64 hi, .int .u64 lo, .int .u8 n] w fun e w' =>
      ∃ l0 l1 a b : Nat, e = .returned (.tuple #[.pointer (some ⟨l0, 0, none⟩), .pointer (some ⟨l1, 0, none⟩), .pointer (some ⟨a, 0, none⟩), .pointer (some ⟨b, 0, none⟩),
          .agg #[.pointer (pickF s0 (some ⟨l0, 0, none⟩) (some ⟨l1, 0, none⟩)), .pointer (pickF s1 (some ⟨l0, 0, none⟩) (some ⟨l1, 0, none⟩))]]) ∧
        Far w w' ∧ w.heap.size ≤ l0 ∧ l0 < l1 ∧ l1 < a ∧ a < b ∧ NodeAt w' l0 1 0 64 true none none S0 ∧ NodeAt w' l1 2 0 64 true none none S1 ∧
        NodeAt w' a hi lo (n % 129) netA (pickF a0 (some ⟨l0, 0, none⟩) (some ⟨l1, 0, none⟩)) (pickF a1 (some ⟨l0, 0, none⟩) (some ⟨l1, 0, none⟩)) (sumF hi lo (n % 129) netA (sumP a0) (sumP a1)) ∧
        NodeAt w' b hi lo (n % 129) netB (pickF b0 (some ⟨l0, 0, none⟩) (some ⟨l1, 0, none⟩)) (pickF b1 (some ⟨l0, 0, none⟩) (some ⟨l1, 0, none⟩)) (sumF hi lo (n % 129) netB (sumP b0) (sumP b1)) := by
  go_enter Yba.func5, Yba.ntmps5
  go_wp2_with fail
  refine (newNode_any 1 0 64 true none none 0 0 _ (by decide) (by decide) (.inl ⟨rfl, rfl⟩) (.inl ⟨rfl, rfl⟩)).mono ?_
  rintro e w1 ⟨rfl, f1, n1⟩
  go_wp2_with fail
  refine (newNode_any 2 0 64 true none none 0 0 _ (by decide) (by decide) (.inl ⟨rfl, rfl⟩) (.inl ⟨rfl, rfl⟩)).mono ?_
  rintro e w2 ⟨rfl, f2, n2⟩
  go_wp2_with fail
  have f3 : Far w2 (w2.alloc (.cells #[.int .u64 hi, .int .u64 lo, .int .u8 (n % 129)] 28)) := (Far.refl _).alloc _ _
  have k0 : (w2.alloc (.cells #[.int .u64 hi, .int .u64 lo, .int .u8 (n % 129)] 28)).cell? ⟨w2.heap.size, 0, none⟩ = some (.int .u64 hi) := by rw [World.cell?_alloc_new]; rfl
  have k1 : (w2.alloc (.cells #[.int .u64 hi, .int .u64 lo, .int .u8 (n % 129)] 28)).cell? ⟨w2.heap.size, 1, none⟩ = some (.int .u64 lo) := by rw [World.cell?_alloc_new]; rfl
  have k2 : (w2.alloc (.cells #[.int .u64 hi, .int .u64 lo, .int .u8 (n % 129)] 28)).cell? ⟨w2.heap.size, 2, none⟩ = some (.int .u8 (n % 129)) := by rw [World.cell?_alloc_new]; rfl
  have z3 : w2.heap.size < (w2.alloc (.cells #[.int .u64 hi, .int .u64 lo, .int .u8 (n % 129)] 28)).heap.size := by simp
  generalize w2.alloc (.cells #[.int .u64 hi, .int .u64 lo, .int .u8 (n % 129)] 28) = w3 at *
  have m1 := (n1.far f2).far f3
  have m2 := n2.far f3
  have hn0 : 0 ≤ n % 129 := by omega
  have hn1 : n % 129 ≤ 128 := by omega
  rw [World.size_alloc] at m1
  have A0 : ∀ k, SumAt (w3.drewN k) _ _ := fun k => (SumAt.pick m1 m2 a0).far ((Far.refl _).drewN k)
  have A1 : ∀ k, SumAt (w3.drewN k) _ _ := fun k => (SumAt.pick m1 m2 a1).far ((Far.refl _).drewN k)
  go_region_held3 (fun w' => w'.cell? ⟨w2.heap.size, 0, none⟩ = some (.int .u64 hi) ∧ w'.cell? ⟨w2.heap.size, 1, none⟩ = some (.int .u64 lo) ∧ w'.cell? ⟨w2.heap.size, 2, none⟩ = some (.int .u8 (n % 129))) (first | (simp [go_sem, k0, k1, k2]; done) | (refine ⟨?_, ?_, ?_⟩ <;> (rw [f4.cell _ _ z3]; simp [go_sem, k0, k1, k2])))
    (first
    | (go_at_call 9; refine (pick_any _ _ _ _ (by omega) (by omega)).mono ?_; rintro e w' ⟨rfl, rfl⟩)
    | (go_at_call 8; refine (newNode_any _ _ _ _ _ _ _ _ _ hn0 hn1 (A0 1) (A1 1)).mono ?_; rintro e w4 ⟨rfl, f4, n4⟩))
  rename_i hold
  obtain ⟨q0, q1, q2⟩ := hold
  have f4' : Far w3 w4 := ((Far.refl _).drewN 1).trans f4
  have m1' := m1.far f4'
  have m2' := m2.far f4'
  have z4 : w2.heap.size < w4.heap.size := Nat.lt_of_lt_of_le z3 f4'.size
  have z0 : w.heap.size + 1 + 2 < w1.heap.size := by have := n1.lt; rw [World.size_alloc] at this; exact this
  have n4' : NodeAt w4 (w3.heap.size + 2) _ _ _ _ _ _ _ := n4
  have z5 := n4'.lt
  have z6 := f2.size
  have B0 : ∀ k, SumAt (w4.drewN k) _ _ := fun k => (SumAt.pick m1' m2' b0).far ((Far.refl _).drewN k)
  have B1 : ∀ k, SumAt (w4.drewN k) _ _ := fun k => (SumAt.pick m1' m2' b1).far ((Far.refl _).drewN k)
  have fv4 := (f1.trans f2).trans (f3.trans f4')
  have y1 : w1.heap.size + 2 < w3.heap.size := m2.lt
  clear A0 A1 k0 k1 k2 n1 n2 m1 m2 f1 f2 f3 f4 f4' n4 z3
  go_wp2_with fail
  go_region_held3 (fun w' => w'.cell? ⟨w2.heap.size, 0, none⟩ = some (.int .u64 hi) ∧ w'.cell? ⟨w2.heap.size, 1, none⟩ = some (.int .u64 lo) ∧ w'.cell? ⟨w2.heap.size, 2, none⟩ = some (.int .u8 (n % 129))) (first | (simp [go_sem, q0, q1, q2]; done) | (refine ⟨?_, ?_, ?_⟩ <;> (rw [f5.cell _ _ z4]; simp [go_sem, q0, q1, q2])))
    (first
    | (go_at_call 9; refine (pick_any _ _ _ _ (by omega) (by omega)).mono ?_; rintro e w' ⟨rfl, rfl⟩)
    | (go_at_call 8; refine (newNode_any _ _ _ _ _ _ _ _ _ hn0 hn1 (B0 1) (B1 1)).mono ?_; rintro e w5 ⟨rfl, f5, n5⟩))
  have f5' : Far w4 w5 := ((Far.refl _).drewN 1).trans f5
  have r1 := m1'.far f5'
  have r2 := m2'.far f5'
  have r3 := n4'.far f5'
  have r4 : NodeAt w5 (w4.heap.size + 2) _ _ _ _ _ _ _ := n5
  have fv5 := fv4.trans f5'
  clear B0 B1 q0 q1 q2 m1' m2' n4' f5 f5' n5 fv4 z4
  have v0 : w5.cell? ⟨w.heap.size, 0, none⟩ = some (.pointer none) := (fv5.cell _ _ (by simp)).trans (by rw [World.cell?_alloc_new]; rfl)
  have v1 : w5.cell? ⟨w.heap.size, 1, none⟩ = some (.pointer none) := (fv5.cell _ _ (by simp)).trans (by rw [World.cell?_alloc_new]; rfl)
  have x0 : w5.frozen? ⟨w.heap.size, 0, none⟩ = false := (fv5.1.frozen (by simp)).trans (World.frozen?_alloc_new _ _ _ _)
  have x1 : w5.frozen? ⟨w.heap.size, 1, none⟩ = false := (fv5.1.frozen (by simp)).trans (World.frozen?_alloc_new _ _ _ _)
  have zz : ¬ w.heap.size = w5.heap.size := by have := fv5.size; simp at this; omega
  have zz' : w.heap.size < w5.heap.size := by have := fv5.size; simp at this; omega
  go_wp2_with (go_at_call 9; refine (pick_any _ _ _ _ (by omega) (by omega)).mono ?_; rintro e w' ⟨rfl, hx⟩; obtain rfl := hx.symm)
  go_region
  go_wp2
  refine bodyPost_ret (v := .tuple #[.pointer (some ⟨w.heap.size + 1 + 2, 0, none⟩), .pointer (some ⟨w1.heap.size + 2, 0, none⟩), .pointer (some ⟨w3.heap.size + 2, 0, none⟩), .pointer (some ⟨w4.heap.size + 2, 0, none⟩),
          .agg #[.pointer (pickF s0 (some ⟨w.heap.size + 1 + 2, 0, none⟩) (some ⟨w1.heap.size + 2, 0, none⟩)), .pointer (pickF s1 (some ⟨w.heap.size + 1 + 2, 0, none⟩) (some ⟨w1.heap.size + 2, 0, none⟩))]]) ?_ rfl ?_
  · have t2 := fun p q o => two_cells w5 w.heap.size p q _ _ o v0 v1
    simp [results, Yba.results5, go_sem, (t2 _ _ _).1, (t2 _ _ _).2]
  · refine ⟨_, _, _, _, rfl, ?_, by omega, by omega, by omega, by omega, ?_, ?_, ?_, ?_⟩
    · exact ((((((Far.refl w).alloc _ _).trans fv5).setCell (Nat.le_refl _) _).setCell (Nat.le_refl _) _).alloc _ _).drew
    · exact ((r1.set w.heap.size 0 _ (by omega)).set w.heap.size 1 _ (by omega)).far (((Far.refl _).alloc _ _).drew)
    · exact ((r2.set w.heap.size 0 _ (by omega)).set w.heap.size 1 _ (by omega)).far (((Far.refl _).alloc _ _).drew)
    · exact ((r3.set w.heap.size 0 _ (by omega)).set w.heap.size 1 _ (by omega)).far (((Far.refl _).alloc _ _).drew)
    · exact ((r4.set w.heap.size 0 _ (by omega)).set w.heap.size 1 _ (by omega)).far (((Far.refl _).alloc _ _).drew)
end Go.Proofs.Ybulkbnry
