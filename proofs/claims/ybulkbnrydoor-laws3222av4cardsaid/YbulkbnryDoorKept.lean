import Derived.WalkKit
import Derived.OwnWalk
import Derived.Laws.AppendOwnNone
import Derived.BigQuiet
namespace Go.Proofs.YbulkbnryDoor
open Go.RowKit

/-- The world has new blocks, and of the old ones those in S alone may be written. -/
structure Kept (S : List Nat) (w w' : World) : Prop where
  os : w'.os = w.os
  tape : w'.tape = w.tape
  output : w'.output = w.output
  size : w.heap.size ≤ w'.heap.size
  block : ∀ k, k < w.heap.size → k ∉ S → w'.heap[k]? = w.heap[k]?

theorem Kept.refl (S : List Nat) (w : World) : Kept S w w := ⟨rfl, rfl, rfl, Nat.le_refl _, fun _ _ _ => rfl⟩
theorem Kept.trans {S : List Nat} {a b c : World} (h : Kept S a b) (k : Kept S b c) : Kept S a c :=
  ⟨k.os.trans h.os, k.tape.trans h.tape, k.output.trans h.output, Nat.le_trans h.size k.size, fun i hi hs => (k.block i (Nat.lt_of_lt_of_le hi h.size) hs).trans (h.block i hi hs)⟩
theorem Kept.mono {S S' : List Nat} {a b : World} (h : Kept S a b) (hs : ∀ k, k ∈ S → k ∈ S') : Kept S' a b :=
  ⟨h.os, h.tape, h.output, h.size, fun i hi hn => h.block i hi (fun hm => hn (hs i hm))⟩
/-- New blocks of the first stretch may be written in the second. -/
theorem Kept.then {S S' : List Nat} {a b c : World} (h : Kept S a b) (k : Kept S' b c) (hs : ∀ x, x ∈ S' → x ∈ S ∨ a.heap.size ≤ x) : Kept S a c :=
  ⟨k.os.trans h.os, k.tape.trans h.tape, k.output.trans h.output, Nat.le_trans h.size k.size, fun i hi hn => (k.block i (Nat.lt_of_lt_of_le hi h.size) (fun hm => by rcases hs i hm with h1 | h1; exact hn h1; omega)).trans (h.block i hi hn)⟩
theorem Kept.alloc {S : List Nat} {a w : World} (h : Kept S a w) (o : Obj) : Kept S a (w.alloc o) :=
  h.trans ⟨rfl, rfl, rfl, by simp, fun k hk _ => Below.heap_alloc _ _ _ hk⟩
theorem Kept.drewN {S : List Nat} {a w : World} (h : Kept S a w) (n : Nat) : Kept S a (w.drewN n) := ⟨h.os, h.tape, h.output, h.size, h.block⟩
theorem Kept.drew {S : List Nat} {a w : World} (h : Kept S a w) : Kept S a w.drew := ⟨h.os, h.tape, h.output, h.size, h.block⟩
theorem Kept.setCell {S : List Nat} {a w : World} (h : Kept S a w) {p : Addr} (hp : p.block ∈ S ∨ a.heap.size ≤ p.block) (u : Value) : Kept S a (w.setCell p u) :=
  h.then (S' := [p.block]) ⟨rfl, rfl, rfl, by simp [World.setCell], fun k _ hn => Below.heap_setCell _ _ _ _ (fun e => hn (by simp [e]))⟩ (fun x hx => by simp at hx; rw [hx]; exact hp)
theorem Kept.grown {S : List Nat} {a w w' : World} {row : Option Nat} (h : Kept S a w) (hg : w.grownBy w' row) (hr : ∀ k, row = some k → k ∈ S ∨ a.heap.size ≤ k) : Kept S a w' :=
  ⟨hg.os.trans h.os, hg.tape.trans h.tape, hg.output.trans h.output, Nat.le_trans h.size hg.size, fun k hk hn => (hg.block k (Nat.lt_of_lt_of_le hk h.size) (fun e => by rcases hr k e.symm with h1 | h1; exact hn h1; omega)).trans (h.block k hk hn)⟩
theorem Kept.cell {S : List Nat} {w w' : World} (h : Kept S w w') (b o : Nat) (hb : b < w.heap.size) (hs : b ∉ S) : w'.cell? ⟨b, o, none⟩ = w.cell? ⟨b, o, none⟩ := World.cell?_of_block (w := w) (h.block b hb hs)
theorem Kept.frozen {S : List Nat} {w w' : World} (h : Kept S w w') (b o : Nat) (hb : b < w.heap.size) (hs : b ∉ S) : w'.frozen? ⟨b, o, none⟩ = w.frozen? ⟨b, o, none⟩ := World.frozen?_of_block (w := w) (h.block b hb hs)
theorem Kept.below {S : List Nat} {w w' : World} {B : Nat} (h : Kept S w w') (hB : B ≤ w.heap.size) (hs : ∀ k, k ∈ S → B ≤ k) : Below B w w' :=
  ⟨h.os, h.tape, h.output, h.size, fun k hk => h.block k (by omega) (fun hm => by have := hs k hm; omega)⟩
theorem Kept.owns {S : List Nat} {w w' : World} {base e size g n cap : Nat} {xs : List Value} (h : Kept S w w') (hs : g ∉ S) (ho : w.ownsRow base e size (.slice (some ⟨g, 0, none⟩) n cap) n xs) : w'.ownsRow base e size (.slice (some ⟨g, 0, none⟩) n cap) n xs := by
  have hlt := (ho.lt g rfl).2
  refine ⟨ho.1, ?_⟩
  rcases ho.2 with h1 | ⟨g', cap', cur, e1, e2, e3, rest⟩
  · exact .inl h1
  · cases e1
    exact .inr ⟨g, cap, cur, rfl, e2, (h.block g hlt hs).trans e3, rest⟩
/-- Of the blocks below Z those in S alone may have been written. -/
structure Held (Z : Nat) (S : List Nat) (w w' : World) : Prop where
  os : w'.os = w.os
  tape : w'.tape = w.tape
  output : w'.output = w.output
  size : w.heap.size ≤ w'.heap.size
  block : ∀ k, k < Z → k ∉ S → w'.heap[k]? = w.heap[k]?
theorem Held.refl (Z : Nat) (S : List Nat) (w : World) : Held Z S w w := ⟨rfl, rfl, rfl, Nat.le_refl _, fun _ _ _ => rfl⟩
theorem Held.trans {Z : Nat} {S : List Nat} {a b c : World} (h : Held Z S a b) (k : Held Z S b c) : Held Z S a c :=
  ⟨k.os.trans h.os, k.tape.trans h.tape, k.output.trans h.output, Nat.le_trans h.size k.size, fun i hi hs => (k.block i hi hs).trans (h.block i hi hs)⟩
theorem Held.mono {Z Z' : Nat} {S S' : List Nat} {a b : World} (h : Held Z S a b) (hZ : Z' ≤ Z) (hs : ∀ k, k ∈ S → k ∈ S') : Held Z' S' a b :=
  ⟨h.os, h.tape, h.output, h.size, fun i hi hn => h.block i (by omega) (fun hm => hn (hs i hm))⟩
theorem Kept.held {S S' : List Nat} {w w' : World} (h : Kept S w w') (Z : Nat) (hZ : Z ≤ w.heap.size) (hs : ∀ k, k ∈ S → k ∈ S' ∨ Z ≤ k) : Held Z S' w w' :=
  ⟨h.os, h.tape, h.output, h.size, fun k hk hn => h.block k (by omega) (fun hm => by rcases hs k hm with h1 | h1; exact hn h1; omega)⟩
theorem Held.grown {Z : Nat} {S : List Nat} {a w w' : World} {row : Option Nat} (h : Held Z S a w) (hg : w.grownBy w' row) (hZ : Z ≤ w.heap.size) (hr : ∀ k, row = some k → k ∈ S ∨ Z ≤ k) : Held Z S a w' :=
  h.trans ⟨hg.os, hg.tape, hg.output, hg.size, fun k hk hn => hg.block k (by omega) (fun e => by rcases hr k e.symm with h1 | h1; exact hn h1; omega)⟩
theorem Held.cell {Z : Nat} {S : List Nat} {w w' : World} (h : Held Z S w w') (b o : Nat) (hb : b < Z) (hs : b ∉ S) : w'.cell? ⟨b, o, none⟩ = w.cell? ⟨b, o, none⟩ := World.cell?_of_block (w := w) (h.block b hb hs)
theorem Held.frozen {Z : Nat} {S : List Nat} {w w' : World} (h : Held Z S w w') (b o : Nat) (hb : b < Z) (hs : b ∉ S) : w'.frozen? ⟨b, o, none⟩ = w.frozen? ⟨b, o, none⟩ := World.frozen?_of_block (w := w) (h.block b hb hs)
theorem Held.owns {Z : Nat} {S : List Nat} {w w' : World} {base e size g n cap : Nat} {xs : List Value} (h : Held Z S w w') (hg : g < Z) (hs : g ∉ S) (ho : w.ownsRow base e size (.slice (some ⟨g, 0, none⟩) n cap) n xs) : w'.ownsRow base e size (.slice (some ⟨g, 0, none⟩) n cap) n xs := by
  refine ⟨ho.1, ?_⟩
  rcases ho.2 with h1 | ⟨g', cap', cur, e1, e2, e3, rest⟩
  · exact .inl h1
  · cases e1
    exact .inr ⟨g, cap, cur, rfl, e2, (h.block g hg hs).trans e3, rest⟩

theorem Held.below {Z : Nat} {S : List Nat} {w w' : World} {B : Nat} (h : Held Z S w w') (hB : B ≤ Z) (hs : ∀ k, k ∈ S → B ≤ k) : Below B w w' :=
  ⟨h.os, h.tape, h.output, h.size, fun k hk => h.block k (by omega) (fun hm => by have := hs k hm; omega)⟩
theorem Kept.of_below {w w' : World} (h : Below w.heap.size w w') : Kept [] w w' := ⟨h.os, h.tape, h.output, h.size, fun k hk _ => h.block k hk⟩
theorem old_cell (w : World) (o : Obj) (b i n : Nat) (hb : b < w.heap.size) : ((w.drewN n).alloc o).cell? ⟨b, i, none⟩ = w.cell? ⟨b, i, none⟩ :=
  (((Kept.refl [] w).drewN n).alloc o).cell b i hb (by simp)
end Go.Proofs.YbulkbnryDoor
