import Derived.Test.YbulkbnxwFmtKept
namespace Go.Proofs.YbulkbnxwFmt
open Go.RowKit

/-- The row of nodes: value, time, held; what node i holds is f i. -/
def Nodes (xs : List Value) (n : Nat) (f : Nat → Option Int) : Prop :=
  ∀ i, i < n → xs[i * 3]? = some (.int .i64 ((f i).getD 0)) ∧ xs[i * 3 + 1]? = some (.int .i64 0) ∧ xs[i * 3 + 2]? = some (.bool (f i).isSome)

structure TreeAt (w : World) (T L D n : Nat) (f : Nat → Option Int) : Prop where
  tl : T < w.heap.size
  ll : L < w.heap.size
  t0 : w.cell? ⟨T, 0, none⟩ = some (.int .i64 n)
  t1 : w.cell? ⟨T, 1, none⟩ = some (.int .i64 0)
  t2 : w.cell? ⟨T, 2, none⟩ = some (.slice (some ⟨L, 0, none⟩) 1 1)
  l0 : w.cell? ⟨L, 0, none⟩ = some (.slice (some ⟨D, 0, none⟩) n n)
  td : T ≠ D
  ld : L ≠ D
  nodes : ∃ xs, w.ownsRow 0 111 3 (.slice (some ⟨D, 0, none⟩) n n) n xs ∧ Nodes xs n f

theorem TreeAt.kept {S : List Nat} {w w' : World} {T L D n : Nat} {f : Nat → Option Int} (h : TreeAt w T L D n f) (k : Kept S w w') (h1 : T ∉ S) (h2 : L ∉ S) (h3 : D ∉ S) : TreeAt w' T L D n f := by
  obtain ⟨xs, ho, hx⟩ := h.nodes
  exact ⟨Nat.lt_of_lt_of_le h.tl k.size, Nat.lt_of_lt_of_le h.ll k.size, (k.cell T 0 h.tl h1).trans h.t0, (k.cell T 1 h.tl h1).trans h.t1, (k.cell T 2 h.tl h1).trans h.t2, (k.cell L 0 h.ll h2).trans h.l0, h.td, h.ld, xs, k.owns h3 ho, hx⟩
theorem TreeAt.cell {w : World} {T L D n : Nat} {f : Nat → Option Int} (h : TreeAt w T L D n f) (i : Nat) (hi : i < n) :
    w.cell? ⟨D, i * 3, none⟩ = some (.int .i64 ((f i).getD 0)) ∧ w.cell? ⟨D, i * 3 + 1, none⟩ = some (.int .i64 0) ∧ w.cell? ⟨D, i * 3 + 2, none⟩ = some (.bool (f i).isSome) := by
  obtain ⟨xs, ho, hx⟩ := h.nodes
  obtain ⟨a, b, c⟩ := hx i hi
  exact ⟨(ho.cellAt _ (by omega)).trans a, (ho.cellAt _ (by omega)).trans b, (ho.cellAt _ (by omega)).trans c⟩
theorem TreeAt.fz {w : World} {T L D n : Nat} {f : Nat → Option Int} (h : TreeAt w T L D n f) (j : Nat) : w.frozen? ⟨D, j, none⟩ = false := by
  obtain ⟨xs, ho, hx⟩ := h.nodes
  exact ho.frozenAt j
theorem TreeAt.dl {w : World} {T L D n : Nat} {f : Nat → Option Int} (h : TreeAt w T L D n f) : D < w.heap.size := by
  obtain ⟨xs, ho, hx⟩ := h.nodes
  exact (ho.lt D rfl).2

theorem Ybaf.info111 : (Ybaf.prog.info? 111).map (fun i => (i.zero, i.size, i.bytes)) = some (some (.agg #[.int .i64 0, .int .i64 0, .bool false]), 3, 24) := by kernel_rfl
theorem Ybaf.info106 : (Ybaf.prog.info? 106).map (fun i => (i.zero, i.size, i.bytes)) = some (some (.slice none 0 0), 1, 24) := by kernel_rfl

theorem make106 (n : Nat) (hn : n ≤ 1000) (w : World) : (Instr.makeSlice 106 (.int .i64 n) (.int .i64 n)).run Ybaf.prog w = .ok (.slice (some ⟨w.heap.size, 0, none⟩) n n) (w.alloc (.cells (madeCells #[.int .i64 0, .int .i64 0, .bool false] (n * 3)) 111)) := by
  obtain ⟨i0, hi, hz0, hz1, hz2⟩ := info_parts Ybaf.info111
  have := run_make (P := Ybaf.prog) w 106 111 i0 _ Ybaf.underlying106 hi hz0 .i64 .i64 n n (by omega) (by omega) (by rw [hz2]; omega) (by omega)
  have e : (Value.agg #[Value.int .i64 0, .int .i64 0, .bool false]).cells = #[Value.int .i64 0, .int .i64 0, .bool false] := by rfl
  rw [hz1, e, Int.toNat_natCast] at this
  exact this
theorem make107 (w : World) : (Instr.makeSlice 107 (.int .i64 1) (.int .i64 1)).run Ybaf.prog w = .ok (.slice (some ⟨w.heap.size, 0, none⟩) 1 1) (w.alloc (.cells #[.slice none 0 0] 106)) := by
  obtain ⟨i0, hi, hz0, hz1, hz2⟩ := info_parts Ybaf.info106
  have := run_make (P := Ybaf.prog) w 107 106 i0 _ Ybaf.underlying107 hi hz0 .i64 .i64 1 1 (by omega) (by omega) (by rw [hz2]; omega) (by omega)
  have e : madeCells (Value.slice none 0 0).cells (Int.toNat 1 * 1) = #[Value.slice none 0 0] := by
    simp [madeCells, Value.cells, Array.range]
    rfl
  rw [hz1, e] at this
  exact this

theorem nodes_new (n : Nat) : Nodes (madeCells #[Value.int .i64 0, .int .i64 0, .bool false] (n * 3)).toList n (fun _ => none) := by
  have key : ∀ j, j < n * 3 → (madeCells #[Value.int .i64 0, .int .i64 0, .bool false] (n * 3)).toList[j]? = some ((#[Value.int .i64 0, .int .i64 0, .bool false] : Array Value)[j % 3]!) := by
    intro j hj
    simp [madeCells, hj]
  intro i hi
  refine ⟨(key _ (by omega)).trans ?_, (key _ (by omega)).trans ?_, (key _ (by omega)).trans ?_⟩
  · rw [show i * 3 % 3 = 0 by omega]; rfl
  · rw [show (i * 3 + 1) % 3 = 1 by omega]; rfl
  · rw [show (i * 3 + 2) % 3 = 2 by omega]; rfl

theorem tree_new (n : Nat) (w1 : World) (h2 : n ≤ 1000) : TreeAt ((((w1.alloc (Obj.cells #[Value.slice (some ⟨w1.heap.size + 1 + 1, 0, none⟩) n n] 106)).alloc (Obj.cells #[Value.int .i64 n, .int .i64 0, .slice (some ⟨w1.heap.size, 0, none⟩) 1 1] 109)).alloc (Obj.cells (madeCells #[Value.int .i64 0, .int .i64 0, .bool false] (n * 3)) 111)).drew) (w1.heap.size + 1) w1.heap.size (w1.heap.size + 2) n (fun _ => none) := by
  refine ⟨by simp [World.drew], by simp [World.drew]; omega, ?_, ?_, ?_, ?_, by omega, by omega, _, ?_, nodes_new n⟩
  · go_simp
  · go_simp
  · go_simp
  · go_simp
  · have := World.ownsRow_lit (base := 0) (e := 111) (size := 3) ((w1.alloc (Obj.cells #[Value.slice (some ⟨w1.heap.size + 1 + 1, 0, none⟩) n n] 106)).alloc (Obj.cells #[Value.int .i64 n, .int .i64 0, .slice (some ⟨w1.heap.size, 0, none⟩) 1 1] 109)) (madeCells #[Value.int .i64 0, .int .i64 0, .bool false] (n * 3)) n (Nat.zero_le _) (by unfold maxLen; omega) (size_madeCells _ _)
    simpa [World.size_alloc] using this.drew

set_option maxRecDepth 100000 in
set_option maxHeartbeats 1600000 in
theorem newTree_any (n : Nat) (w : World) (h1 : 1 ≤ n) (h2 : n ≤ 1000) :
    Calls Ybaf.prog 33 #[.int .i64 n, .int .i64 0, .int .i64 1] w fun e w' => ∃ T L D, e = .returned (.pointer (some ⟨T, 0, none⟩)) ∧ Hid (TreeAt w' T L D n (fun _ => none)) ∧ w.heap.size ≤ T ∧ w.heap.size ≤ L ∧ w.heap.size ≤ D ∧ Hid (Kept [] w w') := by
  have hm := make106 n h2
  have hm7 := make107
  go_enter Ybaf.func33, Ybaf.ntmps33
  go_wp2_with fail
  refine (levels_any n w h1 h2).mono ?_
  rintro e w1 ⟨g, cap, rfl, hg, hgl, hc, hk⟩
  have HK : Hid _ := hk
  clear hk
  have hsz : w.heap.size ≤ w1.heap.size := HK.out.size
  go_wp2
  go_loopw [30] (fun i wr => (i = .int .i64 0 ∧ wr = ((w1.alloc (Obj.cells #[Value.slice none 0 0] 106)).alloc (Obj.cells #[Value.int .i64 n, .int .i64 0, .slice (some ⟨w1.heap.size, 0, none⟩) 1 1] 109))) ∨ (i = .int .i64 1 ∧ Hid (TreeAt wr (w1.heap.size + 1) w1.heap.size (w1.heap.size + 2) n (fun _ => none)) ∧ Hid (Kept [] w wr))) (fun i _ => 2 - (intOf i).toNat)
  case atStart => exact .inl ⟨rfl, rfl⟩
  case round =>
    rcases hrel with ⟨rfl, rfl⟩ | ⟨rfl, ht, hk⟩
    · go_wp2
      go_region
      have ht : Hid _ := tree_new n w1 (by omega)
      have hk : Hid _ := ((((HK.out.alloc (Obj.cells #[Value.slice (some ⟨w1.heap.size + 1 + 1, 0, none⟩) n n] 106)).alloc (Obj.cells #[Value.int .i64 n, .int .i64 0, .slice (some ⟨w1.heap.size, 0, none⟩) 1 1] 109)).alloc (Obj.cells (madeCells #[Value.int .i64 0, .int .i64 0, .bool false] (n * 3)) 111)).drew)
      go_wp2
      go_roundw
      case rel => exact .inr ⟨rfl, ht, hk⟩
      case measure => simp [intOf]
    · go_wp2
      go_ret
      exact ⟨_, _, _, rfl, ht.out, by omega, by omega, by omega, hk.out⟩
end Go.Proofs.YbulkbnxwFmt
