import Derived.Test.YbulkbnryDoorKept
import Derived.Test.YbulkbnryDoorProg
import Derived.Lib.EndianBits
namespace Go.Proofs.YbulkbnryDoor
open Go.RowKit
set_option linter.unusedSimpArgs false
set_option linter.unusedVariables false

theorem tag_last (w : World) (c : Array Value) (t b : Nat) (hb : b = w.heap.size) : ∃ cur, (w.alloc (.cells c t)).heap[b]? = some (.cells cur t (0, 0)) := by
  subst hb; exact ⟨c, heap_alloc_new w _⟩
theorem tag_old {w : World} {o : Obj} {b t : Nat} (hb : b < w.heap.size) (h : ∃ cur, w.heap[b]? = some (.cells cur t (0, 0))) : ∃ cur, (w.alloc o).heap[b]? = some (.cells cur t (0, 0)) := by
  obtain ⟨c, hc⟩ := h; exact ⟨c, (Below.heap_alloc w o b hb).trans hc⟩
def Tag (w : World) (b t : Nat) : Prop := ∃ cur, w.heap[b]? = some (.cells cur t (0, 0))
theorem Tag.ne {w : World} {a b s t : Nat} (h : Tag w a s) (k : Tag w b t) (hst : s ≠ t) : a ≠ b := by
  rintro rfl
  obtain ⟨c, hc⟩ := h
  obtain ⟨d, hd⟩ := k
  rw [hc] at hd; cases hd; exact hst rfl
theorem Tag.lt {w : World} {a s : Nat} (h : Tag w a s) : a < w.heap.size := by obtain ⟨c, hc⟩ := h; exact (Array.getElem?_eq_some_iff.1 hc).1
theorem Tag.kept {S : List Nat} {w w' : World} {a s : Nat} (h : Tag w a s) (k : Kept S w w') (hs : a ∉ S) : Tag w' a s := by
  obtain ⟨c, hc⟩ := h; exact ⟨c, (k.block a (Array.getElem?_eq_some_iff.1 hc).1 hs).trans hc⟩
theorem Tag.set {w : World} {a s : Nat} (h : Tag w a s) (i : Nat) (v : Value) : Tag (w.setCell ⟨a, i, none⟩ v) a s := by
  obtain ⟨c, hc⟩ := h
  refine ⟨c.setIfInBounds i v, ?_⟩
  show ((w.heap.modify a _)[a]? : Option Obj) = _
  rw [Array.getElem?_modify, if_pos rfl, hc]
  rfl
theorem owns_tag {w : World} {base e size n : Nat} {v : Value} {xs : List Value} (h : w.ownsRow base e size v n xs) (g : Nat) (hg : v.ownBlock = some g) : Tag w g e := by
  obtain ⟨_, h2 | ⟨g', cap, cur, rfl, _, b, _⟩⟩ := h
  · rw [h2.1] at hg; cases hg
  · cases hg; exact ⟨cur, b⟩
theorem grown_kept {w w' : World} {row : Option Nat} (hg : w.grownBy w' row) : Kept row.toList w w' :=
  ⟨hg.os, hg.tape, hg.output, hg.size, fun k hk hn => hg.block k hk (fun e => hn (by rw [← e]; simp))⟩
theorem owns_kept {w w' : World} {base e size n : Nat} {v : Value} {xs : List Value} (h : w.ownsRow base e size v n xs) {S : List Nat} (k : Kept S w w') (hs : ∀ g, v.ownBlock = some g → g ∉ S) : w'.ownsRow base e size v n xs := by
  obtain ⟨h1, h2 | ⟨g, cap, cur, rfl, a, b, c⟩⟩ := h
  · exact ⟨h1, .inl h2⟩
  · refine ⟨h1, .inr ⟨g, cap, cur, rfl, a, ?_, c⟩⟩
    rw [k.block g (Array.getElem?_eq_some_iff.1 b).1 (hs g rfl)]; exact b
theorem news3 (w : World) (x y z : Value) (t b : Nat) (hb : b = w.heap.size) : ∀ j u, [x, y, z][j]? = some u → (w.alloc (.cells #[x, y, z] t)).cell? ((⟨b, 0, none⟩ : Addr).add j) = some u := by
  intro j u hu
  have e : (⟨b, 0, none⟩ : Addr).add j = ⟨b, j, none⟩ := by unfold Addr.add; split <;> simp_all
  subst hb
  rw [e, World.cell?_alloc_new]
  simpa using hu
theorem news2 (w : World) (x y : Value) (t b : Nat) (hb : b = w.heap.size) : ∀ j u, [x, y][j]? = some u → (w.alloc (.cells #[x, y] t)).cell? ((⟨b, 0, none⟩ : Addr).add j) = some u := by
  intro j u hu
  have e : (⟨b, 0, none⟩ : Addr).add j = ⟨b, j, none⟩ := by unfold Addr.add; split <;> simp_all
  subst hb
  rw [e, World.cell?_alloc_new]
  simpa using hu
theorem news1 (w : World) (x : Value) (t b : Nat) (hb : b = w.heap.size) : ∀ j u, [x][j]? = some u → (w.alloc (.cells #[x] t)).cell? ((⟨b, 0, none⟩ : Addr).add j) = some u := by
  intro j u hu
  have e : (⟨b, 0, none⟩ : Addr).add j = ⟨b, j, none⟩ := by unfold Addr.add; split <;> simp_all
  subst hb
  rw [e, World.cell?_alloc_new]
  simpa using hu
end Go.Proofs.YbulkbnryDoor
