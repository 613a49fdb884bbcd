import Derived.Test.YbulkbnryDoorCmp2
namespace Go.Proofs.YbulkbnryDoor
open Go.RowKit Go.Sort Go.Shelf
set_option linter.unusedSimpArgs false

theorem sortWorld_kept (w : World) (blk off n : Nat) (d : Array Net) (os : Array Obj) : Kept [blk] w (sortWorldK enc6 3 w blk off n d os) := by
  refine ⟨rfl, rfl, rfl, ?_, ?_⟩
  · simp [sortWorldK, grow, putRowK, putRow, mapBlock, ahead]
  · intro k hk hn
    have hne : ¬ blk = k := fun e => hn (by simp [e])
    simp [sortWorldK, grow, putRowK, putRow, mapBlock, ahead, Array.getElem?_append, hk]
    rw [Array.getElem_modify, if_neg hne]

/-- The row of networks in block B. -/
structure Row6 (w : World) (B : Nat) (ns : List Net) : Prop where
  lt : B < w.heap.size
  holds : HoldsK enc6 3 w B 0 ns.toArray
  tag : ∃ cur, w.heap[B]? = some (.cells cur 61 (0, 0))
theorem Row6.kept {S : List Nat} {w w' : World} {B : Nat} {ns : List Net} (h : Row6 w B ns) (k : Kept S w w') (hs : B ∉ S) : Row6 w' B ns := by
  refine ⟨Nat.lt_of_lt_of_le h.lt k.size, ?_, by obtain ⟨c, hc⟩ := h.tag; exact ⟨c, (k.block B h.lt hs).trans hc⟩⟩
  intro i hi
  have := h.holds i hi
  have e1 : w'.cell? ⟨B, 0 + i, none⟩ = w.cell? ⟨B, 0 + i, none⟩ := k.cell B _ h.lt hs
  have e2 : w'.frozen? ⟨B, 0 + i, none⟩ = w.frozen? ⟨B, 0 + i, none⟩ := k.frozen B _ h.lt hs
  rw [e1, e2]; exact this
theorem Row6.cell {w : World} {B : Nat} {ns : List Net} (h : Row6 w B ns) (i : Nat) (hi : i < ns.length) :
    w.cell? ⟨B, i * 3, none⟩ = some (.int .u64 (ns.getD i default).hi) ∧ w.cell? ⟨B, i * 3 + 1, none⟩ = some (.int .u64 (ns.getD i default).lo) ∧ w.cell? ⟨B, i * 3 + 2, none⟩ = some (.int .i64 (ns.getD i default).place) := by
  have a := (h.holds.cell (i := i) (c := 0) (by simpa using hi) (by omega)).1
  have b := (h.holds.cell (i := i) (c := 1) (by simpa using hi) (by omega)).1
  have c := (h.holds.cell (i := i) (c := 2) (by simpa using hi) (by omega)).1
  have e : ns.toArray[i]! = ns.getD i default := by simp [List.getD, hi]
  rw [e] at a b c
  simp only [Nat.zero_add, Nat.add_zero] at a b c
  exact ⟨a, b, c⟩
theorem flat_get (ns : List Net) : ∀ j, j < ns.length * 3 → (ns.flatMap enc6)[j]? = some ((enc6 (ns.getD (j / 3) default))[j % 3]!) := by
  induction ns with
  | nil => intro j hj; simp at hj
  | cons x r ih =>
    intro j hj
    rw [List.flatMap_cons]
    by_cases h : j < 3
    · rw [List.getElem?_append_left (by simpa [enc6] using h)]
      have h3 : j = 0 ∨ j = 1 ∨ j = 2 := by omega
      rcases h3 with rfl | rfl | rfl <;> rfl
    · rw [List.getElem?_append_right (by simp [enc6]; omega)]
      have e : (enc6 x).length = 3 := rfl
      rw [e, ih (j - 3) (by simp at hj; omega)]
      have h1 : (j - 3) % 3 = j % 3 := by omega
      have h2 : j / 3 = (j - 3) / 3 + 1 := by omega
      rw [h1, h2]
      rfl
theorem own_row6 {w : World} {base B n cap : Nat} {ns : List Net} (h : w.ownsRow base 61 3 (.slice (some ⟨B, 0, none⟩) n cap) n (ns.flatMap enc6)) (hl : ns.length = n) : Row6 w B ns := by
  refine ⟨(h.lt B rfl).2, ?_, ?_⟩
  rotate_left
  · rcases h.2 with ⟨e, _⟩ | ⟨g, c, cur, e, _, e2, _⟩
    · cases e
    · cases e; exact ⟨cur, e2⟩
  intro j hj
  have hj' : j < ns.length * 3 := by simpa using hj
  rw [get_flatK _ _ _ _ (by simpa using hj'), Nat.zero_add]
  refine ⟨?_, h.frozenAt j⟩
  rw [h.cellAt j (by omega), flat_get ns j hj']
  have : ns.toArray[j / 3]! = ns.getD (j / 3) default := by simp [List.getD, (by omega : j / 3 < ns.length)]
  rw [this]
  rfl
def sorted6 (ns : List Net) : List Net := ns.mergeSort fun x y => !ltOf cf14 y x
theorem sort6_any (B cap : Nat) (ns : List Net) (w : World) (h : Row6 w B ns) (hn : ns.length ≤ 100000) :
    Calls Ybad.prog 13 #[.slice (some ⟨B, 0, none⟩) ns.length cap, .func (.func 14) #[] #[]] w fun e w' => e = .returned (.tuple #[]) ∧ Row6 w' B (sorted6 ns) ∧ Kept [B] w w' := by
  have eg : ∀ args w, (callFunc 14 args).run Ybad.prog w = .ok (.enter 14 args) w := enters_of Ybad.func14 (by kernel_rfl) rfl
  have hcon := AnyQ.slices_SortFunc_total Ybad.sort6 3 Ybad.isAgg61 Ybad.sizeOf61 enc6 (fun _ => rfl) (fun x v hv => by simp [enc6] at hv; rcases hv with rfl | rfl | rfl <;> rfl) cf14 swo14 14 #[] B 0 cap ns.toArray w eg (fun _ _ _ _ x y => closure14 x y _) h.holds h.lt (by simp; omega) tot14
  change Calls Ybad.prog 13 _ _ _ at hcon
  simp only [List.size_toArray] at hcon
  refine hcon.mono ?_
  rintro e w' ⟨rfl, n, os, rfl⟩
  refine ⟨rfl, ⟨?_, ?_, ?_⟩, sortWorld_kept _ _ _ _ _ _⟩
  · exact Nat.lt_of_lt_of_le h.lt (sortWorld_kept w B 0 n _ os).size
  · exact SWK.holds ⟨n, os, rfl⟩ h.lt h.holds (by simp [sorted6])
  · obtain ⟨cur, hc⟩ := h.tag
    refine ⟨putCells id 0 (flatK enc6 3 (sorted6 ns).toArray) cur, ?_⟩
    show (((w.heap.modify B (onCells (putCells id 0 (flatK enc6 3 (sorted6 ns).toArray)))) ++ os)[B]? : Option Obj) = _
    rw [Array.getElem?_append, if_pos (by simpa using h.lt), Array.getElem?_modify, if_pos rfl, hc]
    rfl
end Go.Proofs.YbulkbnryDoor
