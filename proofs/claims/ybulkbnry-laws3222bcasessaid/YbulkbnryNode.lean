import Derived.Test.YbulkbnryLeaf
import Derived.Deep.Light
namespace Go.Proofs.Ybulkbnry
open Go.RowKit

def tagF (n : Int) (net : Bool) : Int := bits BinOp.or IntKind.u64 (n * 2) (bitF net)
def sumF (hi lo n : Int) (net : Bool) (s0 s1 : Int) : Int :=
  mixF (mixF (mixF (mixF (hiF hi n) (loF lo n)) (tagF n net)) s0) s1

theorem SumAt.keep {w w' : World} {p : Option Addr} {s : Int} (h : SumAt w p s) (hc : ∀ b, w.cell? ⟨b, 6, none⟩ = some (.int .u64 s) → w'.cell? ⟨b, 6, none⟩ = some (.int .u64 s)) : SumAt w' p s := by
  rcases h with ⟨h1, h2⟩ | ⟨b, h1, h2⟩
  · exact .inl ⟨h1, h2⟩
  · exact .inr ⟨b, h1, hc b h2⟩

set_option maxHeartbeats 1000000 in
theorem summed_any (b : Nat) (hi lo n : Int) (net : Bool) (p0 p1 : Option Addr) (s0 s1 : Int) (s : Value) (w : World) (h0 : 0 ≤ n) (h1 : n ≤ 128)
    (c0 : w.cell? ⟨b, 0, none⟩ = some (.int .u64 hi)) (c1 : w.cell? ⟨b, 1, none⟩ = some (.int .u64 lo)) (c2 : w.cell? ⟨b, 2, none⟩ = some (.int .u8 n))
    (c3 : w.cell? ⟨b, 3, none⟩ = some (.bool net)) (c4 : w.cell? ⟨b, 4, none⟩ = some (.pointer p0)) (c5 : w.cell? ⟨b, 5, none⟩ = some (.pointer p1)) (c6 : w.cell? ⟨b, 6, none⟩ = some s)
    (fz : w.frozen? ⟨b, 6, none⟩ = false) (hs0 : SumAt w p0 s0) (hs1 : SumAt w p1 s1) :
    Calls Yba.prog 7 #[.pointer (some ⟨b, 0, none⟩)] w fun e w' => e = .returned (.pointer (some ⟨b, 0, none⟩)) ∧
      ∃ k, w' = ((w.alloc (.cells #[.int .u64 hi, .int .u64 lo, .int .u8 n] 28)).drewN k).setCell ⟨b, 6, none⟩ (.int .u64 (sumF hi lo n net s0 s1)) := by
  have hb : b < w.heap.size := World.block_lt_of_cell? _ _ c0
  unfold sumF tagF
  go_enter Yba.func7, Yba.ntmps7
  go_wp2_with fail
  refine (first_any _ _ _ _ h0 h1).mono ?_
  rintro e w' ⟨rfl, k, hw⟩
  have old : ∀ b o, b < w.heap.size → w'.cell? ⟨b, o, none⟩ = w.cell? ⟨b, o, none⟩ := fun b o h => by
    rw [hw, World.cell?_drewN, World.cell?_alloc_lt _ _ _ h]
  have d0 := (old b 0 hb).trans c0
  have d1 := (old b 1 hb).trans c1
  have d2 := (old b 2 hb).trans c2
  have d3 := (old b 3 hb).trans c3
  have d4 := (old b 4 hb).trans c4
  have d5 := (old b 5 hb).trans c5
  have d6 := (old b 6 hb).trans c6
  have fz' : w'.frozen? ⟨b, 6, none⟩ = false := by
    rw [hw, World.frozen?_drewN, World.frozen?_alloc_old _ _ _ (by simp; omega)]; exact fz
  have hs0' : ∀ k, SumAt (w'.drewN k) p0 s0 := fun k => hs0.keep fun b h => by
    rw [World.cell?_drewN, old b 6 (World.block_lt_of_cell? _ _ h)]; exact h
  have hs1' : ∀ k, SumAt (w'.drewN k) p1 s1 := fun k => hs1.keep fun b h => by
    rw [World.cell?_drewN, old b 6 (World.block_lt_of_cell? _ _ h)]; exact h
  have HW : Hid (w' = (w.alloc (.cells #[.int .u64 hi, .int .u64 lo, .int .u8 n] 28)).drewN k) := hw
  clear hs0 hs1 c0 c1 c2 c3 c4 c5 c6 fz old hw
  go_wp2_with fail
  go_quiet ((first
    | (go_at_call 11; exact Calls.quiet_of_same (mix_any _ _ _))
    | (go_at_call 12; exact Calls.quiet_of_same (bit_any _ _))
    | (go_at_call 13; exact Calls.quiet_of_same (sum_any _ _ _ (hs0' _)))))
  go_wp2_with (first
    | (go_at_call 11; refine (mix_any _ _ _).mono ?_; rintro e w'' ⟨rfl, rfl⟩)
    | (go_at_call 13; refine (sum_any _ _ _ (hs1' _)).mono ?_; rintro e w'' ⟨rfl, rfl⟩))
  go_ret
  go_light
  refine ⟨rfl, k + nq, ?_⟩
  rw [HW.out, World.drewN_drewN]

/-- Block b is of plain cells, none of them marked. -/
def Plain (w : World) (b : Nat) : Prop := ∃ c t, w.heap[b]? = some (.cells c t (0, 0))
theorem Plain.set {w : World} {b : Nat} (h : Plain w b) (a : Addr) (v : Value) : Plain (w.setCell a v) b := by
  obtain ⟨c, t, h⟩ := h
  unfold Plain World.setCell
  simp only [Array.getElem?_modify]
  split
  · rw [h]; exact ⟨_, _, rfl⟩
  · exact ⟨c, t, h⟩

/-- A node of the trie, at block b. -/
structure NodeAt (w : World) (b : Nat) (hi lo n : Int) (net : Bool) (p0 p1 : Option Addr) (s : Int) : Prop where
  c0 : w.cell? ⟨b, 0, none⟩ = some (.int .u64 hi)
  c1 : w.cell? ⟨b, 1, none⟩ = some (.int .u64 lo)
  c2 : w.cell? ⟨b, 2, none⟩ = some (.int .u8 n)
  c3 : w.cell? ⟨b, 3, none⟩ = some (.bool net)
  c4 : w.cell? ⟨b, 4, none⟩ = some (.pointer p0)
  c5 : w.cell? ⟨b, 5, none⟩ = some (.pointer p1)
  c6 : w.cell? ⟨b, 6, none⟩ = some (.int .u64 s)
  blk : Plain w b

/-- Nothing old has turned; no mark either. -/
def Far (w w' : World) : Prop := Below w.heap.size w w' ∧ Grown w w'

theorem Grown.trans {a b c : World} (h : Grown a b) (k : Grown b c) : Grown a c :=
  ⟨World.keptBut_trans h.1 k.1, fun x => (k.2.1 x).trans (h.2.1 x), Nat.le_trans h.2.2 k.2.2⟩
theorem Far.refl (w : World) : Far w w := ⟨Below.refl _ _, Grown.refl _⟩
theorem Far.trans {a b c : World} (h : Far a b) (k : Far b c) : Far a c := ⟨h.1.trans (k.1.mono h.1.size), Grown.trans h.2 k.2⟩
theorem Far.drewN {a b : World} (h : Far a b) (k : Nat) : Far a (b.drewN k) := ⟨⟨h.1.os, h.1.tape, h.1.output, h.1.size, h.1.block⟩, h.2⟩
theorem Far.drew {a b : World} (h : Far a b) : Far a b.drew := ⟨h.1.drew, h.2.drew⟩
theorem Far.alloc {a b : World} (h : Far a b) (c : Array Value) (t : TypeId) : Far a (b.alloc (.cells c t)) := ⟨h.1.alloc h.1.size _, h.2.alloc _ _⟩
theorem Far.setCell {a b : World} (h : Far a b) {p : Addr} (hp : a.heap.size ≤ p.block) (v : Value) : Far a (b.setCell p v) := ⟨h.1.setCell hp v, h.2.setCell hp v⟩
theorem Far.cell {a b : World} (h : Far a b) (x o : Nat) (hx : x < a.heap.size) : b.cell? ⟨x, o, none⟩ = a.cell? ⟨x, o, none⟩ := h.1.cell (p := ⟨x, o, none⟩) hx
theorem Far.size {a b : World} (h : Far a b) : a.heap.size ≤ b.heap.size := h.1.size

theorem NodeAt.lt {w : World} {b : Nat} {hi lo n : Int} {net : Bool} {p0 p1 : Option Addr} {s : Int} (h : NodeAt w b hi lo n net p0 p1 s) : b < w.heap.size := World.block_lt_of_cell? _ _ h.c0
theorem NodeAt.far {w w' : World} {b : Nat} {hi lo n : Int} {net : Bool} {p0 p1 : Option Addr} {s : Int} (h : NodeAt w b hi lo n net p0 p1 s) (f : Far w w') : NodeAt w' b hi lo n net p0 p1 s :=
  have l := h.lt
  ⟨(f.cell b 0 l).trans h.c0, (f.cell b 1 l).trans h.c1, (f.cell b 2 l).trans h.c2, (f.cell b 3 l).trans h.c3, (f.cell b 4 l).trans h.c4, (f.cell b 5 l).trans h.c5, (f.cell b 6 l).trans h.c6, by obtain ⟨c, t, e⟩ := h.blk; exact ⟨c, t, (f.1.block b l).trans e⟩⟩
theorem SumAt.far {w w' : World} {p : Option Addr} {s : Int} (h : SumAt w p s) (f : Far w w') : SumAt w' p s :=
  h.keep fun b hb => (f.cell b 6 (World.block_lt_of_cell? _ _ hb)).trans hb

theorem summed_box (hi lo n : Int) (net : Bool) (p0 p1 : Option Addr) (s0 s1 : Int) (w : World) (h0 : 0 ≤ n) (h1 : n ≤ 128) (hs0 : SumAt w p0 s0) (hs1 : SumAt w p1 s1) :
    Calls Yba.prog 7 #[.pointer (some ⟨w.heap.size, 0, none⟩)] (w.alloc (.cells #[.int .u64 hi, .int .u64 lo, .int .u8 n, .bool net, .pointer p0, .pointer p1, .int .u64 0] 30)) fun e w' =>
      e = .returned (.pointer (some ⟨w.heap.size, 0, none⟩)) ∧ Far w w' ∧ NodeAt w' w.heap.size hi lo n net p0 p1 (sumF hi lo n net s0 s1) := by
  have f0 : Far w (w.alloc (.cells #[.int .u64 hi, .int .u64 lo, .int .u8 n, .bool net, .pointer p0, .pointer p1, .int .u64 0] 30)) := (Far.refl w).alloc _ _
  have hn : NodeAt (w.alloc (.cells #[.int .u64 hi, .int .u64 lo, .int .u8 n, .bool net, .pointer p0, .pointer p1, .int .u64 0] 30)) w.heap.size hi lo n net p0 p1 0 := by
    refine ⟨?_, ?_, ?_, ?_, ?_, ?_, ?_, ⟨_, _, (MapKept.heap_alloc w _).1⟩⟩ <;> rw [World.cell?_alloc_new] <;> rfl
  have fz : (w.alloc (.cells #[.int .u64 hi, .int .u64 lo, .int .u8 n, .bool net, .pointer p0, .pointer p1, .int .u64 0] 30)).frozen? ⟨w.heap.size, 6, none⟩ = false := World.frozen?_alloc_new _ _ _ _
  have hs0' := hs0.far f0
  have hs1' := hs1.far f0
  have hz : (w.alloc (.cells #[.int .u64 hi, .int .u64 lo, .int .u8 n, .bool net, .pointer p0, .pointer p1, .int .u64 0] 30)).heap.size = w.heap.size + 1 := World.size_alloc _ _
  revert f0 hn fz hs0' hs1' hz
  generalize w.alloc (.cells #[.int .u64 hi, .int .u64 lo, .int .u8 n, .bool net, .pointer p0, .pointer p1, .int .u64 0] 30) = W
  intro f0 hn fz hs0' hs1' hz
  refine (summed_any w.heap.size hi lo n net p0 p1 s0 s1 _ W h0 h1 hn.c0 hn.c1 hn.c2 hn.c3 hn.c4 hn.c5 hn.c6 fz hs0' hs1').mono ?_
  rintro e w' ⟨rfl, k, rfl⟩
  have f1 : Far W ((W.alloc (.cells #[.int .u64 hi, .int .u64 lo, .int .u8 n] 28)).drewN k) := ((Far.refl W).alloc _ _).drewN k
  have hn1 := hn.far f1
  refine ⟨rfl, (f0.trans f1).setCell (Nat.le_refl _) _, ?_⟩
  generalize (W.alloc (.cells #[.int .u64 hi, .int .u64 lo, .int .u8 n] 28)).drewN k = W1 at hn1
  have ne : ∀ i, i ≠ 6 → (⟨w.heap.size, 6, none⟩ : Addr) ≠ ⟨w.heap.size, i, none⟩ := fun i hi h => hi (by injection h with _ h; exact h.symm)
  refine ⟨?_, ?_, ?_, ?_, ?_, ?_, World.cell?_setCell_same _ _ _ hn1.c6, hn1.blk.set _ _⟩
  · rw [World.cell?_setCell_other _ _ _ _ (ne 0 (by decide))]; exact hn1.c0
  · rw [World.cell?_setCell_other _ _ _ _ (ne 1 (by decide))]; exact hn1.c1
  · rw [World.cell?_setCell_other _ _ _ _ (ne 2 (by decide))]; exact hn1.c2
  · rw [World.cell?_setCell_other _ _ _ _ (ne 3 (by decide))]; exact hn1.c3
  · rw [World.cell?_setCell_other _ _ _ _ (ne 4 (by decide))]; exact hn1.c4
  · rw [World.cell?_setCell_other _ _ _ _ (ne 5 (by decide))]; exact hn1.c5

set_option maxHeartbeats 1000000 in
theorem newNode_any (hi lo n : Int) (net : Bool) (p0 p1 : Option Addr) (s0 s1 : Int) (w : World) (h0 : 0 ≤ n) (h1 : n ≤ 128) (hs0 : SumAt w p0 s0) (hs1 : SumAt w p1 s1) :
    Calls Yba.prog 8 #[.agg #[.int .u64 hi, .int .u64 lo, .int .u8 n], .bool net, .agg #[.pointer p0, .pointer p1]] w fun e w' =>
      e = .returned (.pointer (some ⟨w.heap.size + 2, 0, none⟩)) ∧ Far w w' ∧ NodeAt w' (w.heap.size + 2) hi lo n net p0 p1 (sumF hi lo n net s0 s1) := by
  have f0 : Far w ((w.alloc (.cells #[.int .u64 hi, .int .u64 lo, .int .u8 n] 28)).alloc (.cells #[.pointer p0, .pointer p1] 24)) := ((Far.refl w).alloc _ _).alloc _ _
  have hc := summed_box hi lo n net p0 p1 s0 s1 _ h0 h1 (hs0.far f0) (hs1.far f0)
  simp only [World.size_alloc] at hc
  have HC : Hid _ := hc
  clear hc hs0 hs1
  go_enter Yba.func8, Yba.ntmps8
  go_wp2_with fail
  refine Calls.mono HC.out ?_
  rintro e w' ⟨rfl, hf, hn⟩
  go_wp2
  go_ret
  exact ⟨rfl, f0.trans hf, hn⟩
end Go.Proofs.Ybulkbnry
