import Derived.Test.YbulkbnxwFmtStore
import Derived.Deep.RegionHeld3
namespace Go.Proofs.YbulkbnxwFmt
open Go.RowKit

/-- Of the blocks below Z those in S alone may have been written. -/
structure Held (Z : Nat) (S : List Nat) (w w' : World) : Prop where
  os : w'.os = w.os
  tape : w'.tape = w.tape
  output : w'.output = w.output
  size : w.heap.size ≤ w'.heap.size
  block : ∀ k, k < Z → k ∉ S → w'.heap[k]? = w.heap[k]?
theorem Held.refl (Z : Nat) (S : List Nat) (w : World) : Held Z S w w := ⟨rfl, rfl, rfl, Nat.le_refl _, fun _ _ _ => rfl⟩
theorem Held.trans {Z : Nat} {S : List Nat} {a b c : World} (h : Held Z S a b) (k : Held Z S b c) : Held Z S a c :=
  ⟨k.os.trans h.os, k.tape.trans h.tape, k.output.trans h.output, Nat.le_trans h.size k.size, fun i hi hs => (k.block i hi hs).trans (h.block i hi hs)⟩
theorem Held.mono {Z Z' : Nat} {S S' : List Nat} {a b : World} (h : Held Z S a b) (hZ : Z' ≤ Z) (hs : ∀ k, k ∈ S → k ∈ S') : Held Z' S' a b :=
  ⟨h.os, h.tape, h.output, h.size, fun i hi hn => h.block i (by omega) (fun hm => hn (hs i hm))⟩
theorem Kept.held {S S' : List Nat} {w w' : World} (h : Kept S w w') (Z : Nat) (hZ : Z ≤ w.heap.size) (hs : ∀ k, k ∈ S → k ∈ S' ∨ Z ≤ k) : Held Z S' w w' :=
  ⟨h.os, h.tape, h.output, h.size, fun k hk hn => h.block k (by omega) (fun hm => by rcases hs k hm with h1 | h1; exact hn h1; omega)⟩
theorem Held.grown {Z : Nat} {S : List Nat} {a w w' : World} {row : Option Nat} (h : Held Z S a w) (hg : w.grownBy w' row) (hZ : Z ≤ w.heap.size) (hr : ∀ k, row = some k → k ∈ S ∨ Z ≤ k) : Held Z S a w' :=
  h.trans ⟨hg.os, hg.tape, hg.output, hg.size, fun k hk hn => hg.block k (by omega) (fun e => by rcases hr k e.symm with h1 | h1; exact hn h1; omega)⟩
theorem Held.cell {Z : Nat} {S : List Nat} {w w' : World} (h : Held Z S w w') (b o : Nat) (hb : b < Z) (hs : b ∉ S) : w'.cell? ⟨b, o, none⟩ = w.cell? ⟨b, o, none⟩ := World.cell?_of_block (w := w) (h.block b hb hs)
theorem Held.frozen {Z : Nat} {S : List Nat} {w w' : World} (h : Held Z S w w') (b o : Nat) (hb : b < Z) (hs : b ∉ S) : w'.frozen? ⟨b, o, none⟩ = w.frozen? ⟨b, o, none⟩ := World.frozen?_of_block (w := w) (h.block b hb hs)
theorem Held.owns {Z : Nat} {S : List Nat} {w w' : World} {base e size g n cap : Nat} {xs : List Value} (h : Held Z S w w') (hg : g < Z) (hs : g ∉ S) (ho : w.ownsRow base e size (.slice (some ⟨g, 0, none⟩) n cap) n xs) : w'.ownsRow base e size (.slice (some ⟨g, 0, none⟩) n cap) n xs := by
  refine ⟨ho.1, ?_⟩
  rcases ho.2 with h1 | ⟨g', cap', cur, e1, e2, e3, rest⟩
  · exact .inl h1
  · cases e1
    exact .inr ⟨g, cap, cur, rfl, e2, (h.block g hg hs).trans e3, rest⟩
theorem TreeAt.held {Z : Nat} {S : List Nat} {w w' : World} {T L D n : Nat} {f : Nat → Option Int} (h : TreeAt w T L D n f) (k : Held Z S w w') (z1 : T < Z) (z2 : L < Z) (z3 : D < Z) (h1 : T ∉ S) (h2 : L ∉ S) (h3 : D ∉ S) : TreeAt w' T L D n f := by
  obtain ⟨xs, ho, hx⟩ := h.nodes
  exact ⟨Nat.lt_of_lt_of_le h.tl k.size, Nat.lt_of_lt_of_le h.ll k.size, (k.cell T 0 z1 h1).trans h.t0, (k.cell T 1 z1 h1).trans h.t1, (k.cell T 2 z1 h1).trans h.t2, (k.cell L 0 z2 h2).trans h.l0, h.td, h.ld, xs, k.owns z3 h3 ho, hx⟩

/-- The process: its environment, F = 0, the default, the tree, the scratch label. -/
structure ProcAt (w : World) (P E T : Nat) (d : Int) (lab : Value) : Prop where
  pl : P < w.heap.size
  p0 : w.cell? ⟨P, 0, none⟩ = some (.iface 39 (.pointer (some ⟨E, 0, none⟩)))
  p1 : w.cell? ⟨P, 1, none⟩ = some (.int .i64 0)
  p2 : w.cell? ⟨P, 2, none⟩ = some (.string ⟨#[]⟩)
  p3 : w.cell? ⟨P, 3, none⟩ = some (.int .i64 d)
  p7 : w.cell? ⟨P, 7, none⟩ = some (.pointer (some ⟨T, 0, none⟩))
  p8 : w.cell? ⟨P, 8, none⟩ = some lab
  z8 : w.frozen? ⟨P, 8, none⟩ = false
theorem ProcAt.kept {S : List Nat} {w w' : World} {P E T : Nat} {d : Int} {lab : Value} (h : ProcAt w P E T d lab) (k : Kept S w w') (hs : P ∉ S) : ProcAt w' P E T d lab :=
  ⟨Nat.lt_of_lt_of_le h.pl k.size, (k.cell P _ h.pl hs).trans h.p0, (k.cell P _ h.pl hs).trans h.p1, (k.cell P _ h.pl hs).trans h.p2, (k.cell P _ h.pl hs).trans h.p3, (k.cell P _ h.pl hs).trans h.p7, (k.cell P _ h.pl hs).trans h.p8, (k.frozen P _ h.pl hs).trans h.z8⟩
theorem ProcAt.held {Z : Nat} {S : List Nat} {w w' : World} {P E T : Nat} {d : Int} {lab : Value} (h : ProcAt w P E T d lab) (k : Held Z S w w') (hz : P < Z) (hs : P ∉ S) : ProcAt w' P E T d lab :=
  ⟨Nat.lt_of_lt_of_le h.pl k.size, (k.cell P _ hz hs).trans h.p0, (k.cell P _ hz hs).trans h.p1, (k.cell P _ hz hs).trans h.p2, (k.cell P _ hz hs).trans h.p3, (k.cell P _ hz hs).trans h.p7, (k.cell P _ hz hs).trans h.p8, (k.frozen P _ hz hs).trans h.z8⟩
theorem ProcAt.lab {w : World} {P E T : Nat} {d : Int} {lab : Value} (h : ProcAt w P E T d lab) (v : Value) : ProcAt (w.setCell ⟨P, 8, none⟩ v) P E T d v := by
  obtain ⟨pl, p0, p1, p2, p3, p7, p8, z8⟩ := h
  refine ⟨by simpa using pl, ?_, ?_, ?_, ?_, ?_, ?_, ?_⟩ <;> go_simp

/-- The scratch label: nil, or a row of its own at or above Z. -/
def LabAt (w : World) (Z : Nat) (lab : Value) : Prop := lab = .slice none 0 0 ∨ ∃ G cap y, lab = .slice (some ⟨G, 0, none⟩) 1 cap ∧ w.ownsRow Z 3 1 (.slice (some ⟨G, 0, none⟩) 1 cap) 1 [y]

theorem owns_cut {w : World} {Z G cap : Nat} {y : Value} (h : w.ownsRow Z 3 1 (.slice (some ⟨G, 0, none⟩) 1 cap) 1 [y]) : w.ownsRow Z 3 1 (.slice (some ⟨G, 0, none⟩) 0 cap) 0 [] := by
  refine ⟨rfl, ?_⟩
  rcases h.2 with ⟨e, _⟩ | ⟨g, c, cur, e, a1, a2, a3, a4, a5, a6⟩
  · cases e
  · cases e
    exact .inr ⟨G, cap, cur, rfl, a1, a2, Nat.zero_le _, a4, a5, by simp⟩

set_option maxRecDepth 100000 in
set_option maxHeartbeats 1600000 in
theorem gstore_nil (P E T L D n Z id : Nat) (d v : Int) (f : Nat → Option Int) (w : World) (hp : Hid (ProcAt w P E T d (.slice none 0 0))) (ht : Hid (TreeAt w T L D n f)) (hZ : Z ≤ w.heap.size) (zP : P < Z) (zT : T < Z) (zL : L < Z) (zD : D < Z) (nPT : Hid (P ≠ T ∧ P ≠ L ∧ P ≠ D)) (h1 : 1 ≤ id) (h2 : id ≤ n) (hn : n ≤ 1000) :
    Calls Ybaf.prog 34 #[.pointer (some ⟨P, 0, none⟩), .slice none 0 0, .int .i64 id, .agg #[.int .i64 v, .int .i64 0]] w fun e w' => e = .returned (.tuple #[]) ∧ Hid (∃ lab, ProcAt w' P E T d lab ∧ LabAt w' Z lab) ∧ Hid (TreeAt w' T L D n (fun j => if j = id - 1 then some v else f j)) ∧ Hid (Held Z [P, D] w w') := by
  obtain ⟨i0, hi, hz0, hz1, hz2⟩ := info_parts Ybaf.info3
  have hown0 : w.ownsRow Z 3 1 (.slice none 0 0) 0 [] := (World.ownsRow_nil w Z 3 1)
  have p8 := hp.out.p8
  have z8 := hp.out.z8
  have p7 := hp.out.p7
  have pl := hp.out.pl
  go_enter Ybaf.func34, Ybaf.ntmps34
  go_wp2_with (first
    | (at_builtin; refine wpList_append_own_none rfl (.tmp 13) (.tmp 14) 70 rfl Z 3 i0 1 Ybaf.underlying70 hi _ 0 [] rfl (hown0.alloc _) rfl ?_)
    | (at_builtin; refine wpList_append_own _ rfl (.tmp 15) (.tmp 17) 70 rfl Z 3 i0 (.int .i64 0) 1 8 Ybaf.underlying70 hi hz0 hz1 hz2 rfl (by decide) _ _ _ rfl ((hown0.alloc _).alloc _) ⟨w.heap.size + 1, 0, none⟩ 1 1 [.int .i64 (id : Int)] rfl rfl (by intro t u ht; match t, ht with | 0, ht => simp at ht; subst ht; simp [Addr.add]) (by intro u hu; simp at hu; subst hu; rfl) (by unfold maxLen; omega) (by omega) (by simp; omega) ?_))
  intro v1 w1 hown1 hgrow1 hne1
  have hs1 : w.heap.size + 2 ≤ w1.heap.size := by simpa using hgrow1.size
  have ha : Kept [] w ((w.alloc (.cells #[.int .i64 v, .int .i64 0] 68)).alloc (.cells #[.int .i64 id] 3)) := ((Kept.refl _ _).alloc _).alloc _
  have hh : Held Z [] w w1 := (ha.held Z hZ (by simp)).grown hgrow1 (by simp; omega) (fun k hk => .inr (by cases hk))
  have bx : ∀ o, w1.cell? ⟨w.heap.size, o, none⟩ = ((w.alloc (.cells #[.int .i64 v, .int .i64 0] 68)).alloc (.cells #[.int .i64 id] 3)).cell? ⟨w.heap.size, o, none⟩ := fun o => World.cell?_of_block (hgrow1.block w.heap.size (by simp; omega) (fun e => by cases e))
  have b0 : w1.cell? ⟨w.heap.size, 0, none⟩ = some (.int .i64 v) := (bx 0).trans (by go_simp)
  have b1 : w1.cell? ⟨w.heap.size, 1, none⟩ = some (.int .i64 0) := (bx 1).trans (by go_simp)
  have hp1 := hp.out.held hh zP (by simp)
  have ht1 := ht.out.held hh zT zL zD (by simp) (by simp) (by simp)
  obtain ⟨G1, cap1, rfl, zG, hG1, hc1⟩ : ∃ G1 cap1, v1 = .slice (some ⟨G1, 0, none⟩) 1 cap1 ∧ Z ≤ G1 ∧ G1 < w1.heap.size ∧ w1.cell? ⟨G1, 0, none⟩ = some (.int .i64 id) := by
    rcases hown1.2 with ⟨e, h⟩ | ⟨g, c, cur, rfl, hb, _⟩
    · exact absurd h (by omega)
    · exact ⟨g, c, rfl, hb, (hown1.lt g rfl).2, by simpa using hown1.cellAt 0 (by omega)⟩
  obtain ⟨n1, n2, n3⟩ := nPT.out
  have hk2 : Kept [P] w1 (w1.setCell ⟨P, 8, none⟩ (.slice (some ⟨G1, 0, none⟩) 1 cap1)) := (Kept.refl _ _).setCell (p := ⟨P, 8, none⟩) (.inl (by simp)) _
  have hp2 := hp1.lab (.slice (some ⟨G1, 0, none⟩) 1 cap1)
  have ht2 : Hid _ := ht1.kept hk2 (by simp; omega) (by simp; omega) (by simp; omega)
  have hc2 := (hk2.cell G1 0 hG1 (by simp; omega)).trans hc1
  have b02 := (hk2.cell w.heap.size 0 (by omega) (by simp; omega)).trans b0
  have b12 := (hk2.cell w.heap.size 1 (by omega) (by simp; omega)).trans b1
  have ho2 : Hid _ := hk2.owns (g := G1) (by simp; omega) hown1
  have hh2 : Hid (Held Z [P] w (w1.setCell ⟨P, 8, none⟩ (.slice (some ⟨G1, 0, none⟩) 1 cap1))) := (hh.mono (Nat.le_refl _) (by simp)).trans (hk2.held Z (by omega) (by simp))
  have hs2 := hk2.size
  have z81 := hp1.z8
  have p81 := hp1.p8
  clear hown1 hgrow1 hne1 ha hh bx b0 b1 ht1 hk2 hown0 p8 z8 p7 hp1 hc1 n1 n2 n3
  go_wp2
  clear z81 p81
  generalize w1.setCell ⟨P, 8, none⟩ (.slice (some ⟨G1, 0, none⟩) 1 cap1) = w2 at *
  have p7 := hp2.p7
  have p8 := hp2.p8
  have hp3 : Hid _ := hp2
  clear hp2
  have hG2 : G1 < w2.heap.size := by omega
  have cdr : ∀ k, (w2.drewN k).cell? ⟨G1, 0, none⟩ = some (.int .i64 id) := fun k => hc2
  have tdr : ∀ k, Hid (TreeAt (w2.drewN k) T L D n f) := fun k => ht2.out.kept ((Kept.refl [] w2).drewN k) (by simp) (by simp) (by simp)
  go_region_held3 (fun W => W.cell? ⟨P, 7, none⟩ = some (.pointer (some ⟨T, 0, none⟩)) ∧ W.cell? ⟨P, 8, none⟩ = some (.slice (some ⟨G1, 0, none⟩) 1 cap1) ∧ W.cell? ⟨w.heap.size, 0, none⟩ = some (.int .i64 v) ∧ W.cell? ⟨w.heap.size, 1, none⟩ = some (.int .i64 0)) (first | (simp [go_sem, p7, p8, b02, b12]; done) | (have hx := h4.out; have hy := hp3.out.pl; have hz := nPT.out; refine ⟨?_, ?_, ?_, ?_⟩ <;> (rw [hx.cell _ _ (by simp; omega) (by simp; omega)]; simp [go_sem, p7, p8, b02, b12])))
    (first
    | (go_at_call 39; refine (tstore_any T L D n G1 cap1 id v f _ (tdr 1) (by simp [World.drewN]; omega) (cdr 1) h1 h2 hn).mono ?_; rintro e w4 ⟨rfl, ht4, h4⟩))
  have kd : Kept [D] w2 w4 := ((Kept.refl _ w2).drewN 1).trans h4.out
  have hsz2 := hs2
  go_end0
  refine ⟨rfl, ⟨_, hp3.out.kept kd (by have := nPT.out; simp; omega), .inr ⟨G1, cap1, _, rfl, kd.owns (by simp; omega) ho2.out⟩⟩, ht4, ?_⟩
  exact (hh2.out.mono (Nat.le_refl _) (by simp)).trans (kd.held Z (by omega) (by simp))

set_option maxRecDepth 100000 in
set_option maxHeartbeats 1600000 in
theorem gstore_some (P E T L D n Z id : Nat) (G cap : Nat) (y : Value) (d v : Int) (f : Nat → Option Int) (w : World) (hp : Hid (ProcAt w P E T d (.slice (some ⟨G, 0, none⟩) 1 cap))) (ht : Hid (TreeAt w T L D n f)) (hlab : Hid (w.ownsRow Z 3 1 (.slice (some ⟨G, 0, none⟩) 1 cap) 1 [y])) (hZ : Z ≤ w.heap.size) (zP : P < Z) (zT : T < Z) (zL : L < Z) (zD : D < Z) (nPT : Hid (P ≠ T ∧ P ≠ L ∧ P ≠ D)) (h1 : 1 ≤ id) (h2 : id ≤ n) (hn : n ≤ 1000) :
    Calls Ybaf.prog 34 #[.pointer (some ⟨P, 0, none⟩), .slice none 0 0, .int .i64 id, .agg #[.int .i64 v, .int .i64 0]] w fun e w' => e = .returned (.tuple #[]) ∧ Hid (∃ lab, ProcAt w' P E T d lab ∧ LabAt w' Z lab) ∧ Hid (TreeAt w' T L D n (fun j => if j = id - 1 then some v else f j)) ∧ Hid (Held Z [P, D] w w') := by
  obtain ⟨i0, hi, hz0, hz1, hz2⟩ := info_parts Ybaf.info3
  have hown0 : w.ownsRow Z 3 1 (.slice (some ⟨G, 0, none⟩) 0 cap) 0 [] := (owns_cut hlab.out)
  have hcap : 1 ≤ cap := by
    rcases hlab.out.2 with ⟨e, _⟩ | ⟨g, c, cur, e, _, _, a3, _⟩
    · cases e
    · cases e; exact a3
  have p8 := hp.out.p8
  have z8 := hp.out.z8
  have p7 := hp.out.p7
  have pl := hp.out.pl
  go_enter Ybaf.func34, Ybaf.ntmps34
  go_wp2_with (first
    | (at_builtin; refine wpList_append_own_none rfl (.tmp 13) (.tmp 14) 70 rfl Z 3 i0 1 Ybaf.underlying70 hi _ 0 [] rfl (hown0.alloc _) rfl ?_)
    | (at_builtin; refine wpList_append_own _ rfl (.tmp 15) (.tmp 17) 70 rfl Z 3 i0 (.int .i64 0) 1 8 Ybaf.underlying70 hi hz0 hz1 hz2 rfl (by decide) _ _ _ rfl ((hown0.alloc _).alloc _) ⟨w.heap.size + 1, 0, none⟩ 1 1 [.int .i64 (id : Int)] rfl rfl (by intro t u ht; match t, ht with | 0, ht => simp at ht; subst ht; simp [Addr.add]) (by intro u hu; simp at hu; subst hu; rfl) (by unfold maxLen; omega) (by omega) (by simp; omega) ?_))
  intro v1 w1 hown1 hgrow1 hne1
  have hs1 : w.heap.size + 2 ≤ w1.heap.size := by simpa using hgrow1.size
  have ha : Kept [] w ((w.alloc (.cells #[.int .i64 v, .int .i64 0] 68)).alloc (.cells #[.int .i64 id] 3)) := ((Kept.refl _ _).alloc _).alloc _
  have hh : Held Z [] w w1 := (ha.held Z hZ (by simp)).grown hgrow1 (by simp; omega) (fun k hk => .inr (by cases hk; exact (hown0.lt G rfl).1))
  have bx : ∀ o, w1.cell? ⟨w.heap.size, o, none⟩ = ((w.alloc (.cells #[.int .i64 v, .int .i64 0] 68)).alloc (.cells #[.int .i64 id] 3)).cell? ⟨w.heap.size, o, none⟩ := fun o => World.cell?_of_block (hgrow1.block w.heap.size (by simp; omega) (fun e => by have h := (hown0.lt G rfl).2; have h9 : w.heap.size = G := Option.some.inj e; omega))
  have b0 : w1.cell? ⟨w.heap.size, 0, none⟩ = some (.int .i64 v) := (bx 0).trans (by go_simp)
  have b1 : w1.cell? ⟨w.heap.size, 1, none⟩ = some (.int .i64 0) := (bx 1).trans (by go_simp)
  have hp1 := hp.out.held hh zP (by simp)
  have ht1 := ht.out.held hh zT zL zD (by simp) (by simp) (by simp)
  obtain ⟨G1, cap1, rfl, zG, hG1, hc1⟩ : ∃ G1 cap1, v1 = .slice (some ⟨G1, 0, none⟩) 1 cap1 ∧ Z ≤ G1 ∧ G1 < w1.heap.size ∧ w1.cell? ⟨G1, 0, none⟩ = some (.int .i64 id) := by
    rcases hown1.2 with ⟨e, h⟩ | ⟨g, c, cur, rfl, hb, _⟩
    · exact absurd h (by omega)
    · exact ⟨g, c, rfl, hb, (hown1.lt g rfl).2, by simpa using hown1.cellAt 0 (by omega)⟩
  obtain ⟨n1, n2, n3⟩ := nPT.out
  have hk2 : Kept [P] w1 (w1.setCell ⟨P, 8, none⟩ (.slice (some ⟨G1, 0, none⟩) 1 cap1)) := (Kept.refl _ _).setCell (p := ⟨P, 8, none⟩) (.inl (by simp)) _
  have hp2 := hp1.lab (.slice (some ⟨G1, 0, none⟩) 1 cap1)
  have ht2 : Hid _ := ht1.kept hk2 (by simp; omega) (by simp; omega) (by simp; omega)
  have hc2 := (hk2.cell G1 0 hG1 (by simp; omega)).trans hc1
  have b02 := (hk2.cell w.heap.size 0 (by omega) (by simp; omega)).trans b0
  have b12 := (hk2.cell w.heap.size 1 (by omega) (by simp; omega)).trans b1
  have ho2 : Hid _ := hk2.owns (g := G1) (by simp; omega) hown1
  have hh2 : Hid (Held Z [P] w (w1.setCell ⟨P, 8, none⟩ (.slice (some ⟨G1, 0, none⟩) 1 cap1))) := (hh.mono (Nat.le_refl _) (by simp)).trans (hk2.held Z (by omega) (by simp))
  have hs2 := hk2.size
  have z81 := hp1.z8
  have p81 := hp1.p8
  clear hown1 hgrow1 hne1 ha hh bx b0 b1 ht1 hk2 hown0 p8 z8 p7 hp1 hc1 n1 n2 n3
  go_wp2
  clear z81 p81
  generalize w1.setCell ⟨P, 8, none⟩ (.slice (some ⟨G1, 0, none⟩) 1 cap1) = w2 at *
  have p7 := hp2.p7
  have p8 := hp2.p8
  have hp3 : Hid _ := hp2
  clear hp2
  have hG2 : G1 < w2.heap.size := by omega
  have cdr : ∀ k, (w2.drewN k).cell? ⟨G1, 0, none⟩ = some (.int .i64 id) := fun k => hc2
  have tdr : ∀ k, Hid (TreeAt (w2.drewN k) T L D n f) := fun k => ht2.out.kept ((Kept.refl [] w2).drewN k) (by simp) (by simp) (by simp)
  go_region_held3 (fun W => W.cell? ⟨P, 7, none⟩ = some (.pointer (some ⟨T, 0, none⟩)) ∧ W.cell? ⟨P, 8, none⟩ = some (.slice (some ⟨G1, 0, none⟩) 1 cap1) ∧ W.cell? ⟨w.heap.size, 0, none⟩ = some (.int .i64 v) ∧ W.cell? ⟨w.heap.size, 1, none⟩ = some (.int .i64 0)) (first | (simp [go_sem, p7, p8, b02, b12]; done) | (have hx := h4.out; have hy := hp3.out.pl; have hz := nPT.out; refine ⟨?_, ?_, ?_, ?_⟩ <;> (rw [hx.cell _ _ (by simp; omega) (by simp; omega)]; simp [go_sem, p7, p8, b02, b12])))
    (first
    | (go_at_call 39; refine (tstore_any T L D n G1 cap1 id v f _ (tdr 1) (by simp [World.drewN]; omega) (cdr 1) h1 h2 hn).mono ?_; rintro e w4 ⟨rfl, ht4, h4⟩))
  have kd : Kept [D] w2 w4 := ((Kept.refl _ w2).drewN 1).trans h4.out
  have hsz2 := hs2
  go_end0
  refine ⟨rfl, ⟨_, hp3.out.kept kd (by have := nPT.out; simp; omega), .inr ⟨G1, cap1, _, rfl, kd.owns (by simp; omega) ho2.out⟩⟩, ht4, ?_⟩
  exact (hh2.out.mono (Nat.le_refl _) (by simp)).trans (kd.held Z (by omega) (by simp))

theorem gstore_any (P E T L D n Z id : Nat) (d v : Int) (f : Nat → Option Int) (w : World) (hp : Hid (∃ lab, ProcAt w P E T d lab ∧ LabAt w Z lab)) (ht : Hid (TreeAt w T L D n f)) (hZ : Z ≤ w.heap.size) (zP : P < Z) (zT : T < Z) (zL : L < Z) (zD : D < Z) (nPT : Hid (P ≠ T ∧ P ≠ L ∧ P ≠ D)) (h1 : 1 ≤ id) (h2 : id ≤ n) (hn : n ≤ 1000) :
    Calls Ybaf.prog 34 #[.pointer (some ⟨P, 0, none⟩), .slice none 0 0, .int .i64 id, .agg #[.int .i64 v, .int .i64 0]] w fun e w' => e = .returned (.tuple #[]) ∧ Hid (∃ lab, ProcAt w' P E T d lab ∧ LabAt w' Z lab) ∧ Hid (TreeAt w' T L D n (fun j => if j = id - 1 then some v else f j)) ∧ Hid (Held Z [P, D] w w') := by
  obtain ⟨lab, hpa, rfl | ⟨G, cap, y, rfl, ho⟩⟩ := hp.out
  · exact gstore_nil P E T L D n Z id d v f w hpa ht hZ zP zT zL zD nPT h1 h2 hn
  · exact gstore_some P E T L D n Z id G cap y d v f w hpa ht ho hZ zP zT zL zD nPT h1 h2 hn
end Go.Proofs.YbulkbnxwFmt
