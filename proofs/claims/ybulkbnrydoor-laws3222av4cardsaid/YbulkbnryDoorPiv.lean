import Derived.Test.YbulkbnryDoorHeap
namespace Go.Proofs.YbulkbnryDoor
open Go.RowKit
set_option linter.unusedSimpArgs false
set_option linter.unusedVariables false

/-- The row and the cell that counts the swaps. -/
structure PS (w0 w : World) (S B off n : Nat) (G : Nat → Int) : Prop where
  kept : Kept [S] w0 w
  cell : ∀ t, t < n → w.cell? ⟨B, off + t, none⟩ = some (.int .u64 (G t))
  tag : Tag w B 35
  sc : ∃ s : Int, w.cell? ⟨S, 0, none⟩ = some (.int .i64 s)
  sf : w.frozen? ⟨S, 0, none⟩ = false
  stag : Tag w S 3
theorem PS.start {w0 w : World} {S B off n : Nat} {G : Nat → Int} (h : PS w0 w S B off n G) : PS w w S B off n G := ⟨Kept.refl _ _, h.cell, h.tag, h.sc, h.sf, h.stag⟩
theorem PS.trans {a w0 w : World} {S B off n : Nat} {G : Nat → Int} (h0 : PS a w0 S B off n G) (h : PS w0 w S B off n G) : PS a w S B off n G := ⟨h0.kept.trans h.kept, h.cell, h.tag, h.sc, h.sf, h.stag⟩
theorem PS.drewN {w0 w : World} {S B off n : Nat} {G : Nat → Int} (h : PS w0 w S B off n G) (q : Nat) : PS w0 (w.drewN q) S B off n G := ⟨h.kept.drewN q, h.cell, h.tag, h.sc, h.sf, h.stag⟩
theorem PS.set {w0 w : World} {S B off n : Nat} {G : Nat → Int} (h : PS w0 w S B off n G) (x : Int) : PS w0 (w.setCell ⟨S, 0, none⟩ (.int .i64 x)) S B off n G := by
  have hne := h.tag.ne h.stag (by decide)
  obtain ⟨s, hs⟩ := h.sc
  have k : Kept [S] w (w.setCell ⟨S, 0, none⟩ (.int .i64 x)) := (Kept.refl _ _).setCell (p := ⟨S, 0, none⟩) (.inl (by simp)) _
  exact ⟨h.kept.trans k, fun t ht => (k.cell B _ h.tag.lt (by simpa using hne)).trans (h.cell t ht), h.tag.kept k (by simpa using hne), ⟨x, World.cell?_setCell_same _ _ _ hs⟩, by simpa using h.sf, h.stag.set _ _⟩
set_option maxRecDepth 100000 in
set_option maxHeartbeats 1600000 in
theorem order73 (S B off n cap lo hi x y : Nat) (G : Nat → Int) (w : World) (h : Hid (PS w w S B off n G)) (hn : n ≤ 100000) (hh : hi ≤ n) (x1 : lo ≤ x) (x2 : x < hi) (y1 : lo ≤ y) (y2 : y < hi) :
    Calls Ybad.prog 73 #[.slice (some ⟨B, off, none⟩) n cap, .int .i64 x, .int .i64 y, .pointer (some ⟨S, 0, none⟩)] w fun e w' => (∃ p q : Nat, e = .returned (.tuple #[.int .i64 p, .int .i64 q]) ∧ lo ≤ p ∧ p < hi ∧ lo ≤ q ∧ q < hi) ∧ Hid (PS w w' S B off n G) := by
  have hcw := h.out.cell
  obtain ⟨s, hs⟩ := h.out.sc
  have hf := h.out.sf
  by_cases hl : G y < G x
  · go_enter Ybad.func73, Ybad.ntmps73
    go_wp2
    go_quiet (first | (go_at_call 41; refine Calls.quiet_of_same (less41 _ _ _)))
    go_wp2
    go_ret2
    exact ⟨⟨y, x, rfl, by omega, by omega, by omega, by omega⟩, (h.out.drewN _).set _⟩
  · have hd : decide (G y < G x) = false := decide_eq_false hl
    go_enter Ybad.func73, Ybad.ntmps73
    go_wp2
    go_quiet (first | (go_at_call 41; refine Calls.quiet_of_same (less41 _ _ _)))
    go_wp2
    go_ret2
    exact ⟨⟨x, y, rfl, by omega, by omega, by omega, by omega⟩, h.out.drewN _⟩
set_option maxRecDepth 100000 in
set_option maxHeartbeats 1600000 in
theorem median66 (S B off n cap lo hi x y z : Nat) (G : Nat → Int) (w : World) (h : Hid (PS w w S B off n G)) (hn : n ≤ 100000) (hh : hi ≤ n) (x1 : lo ≤ x) (x2 : x < hi) (y1 : lo ≤ y) (y2 : y < hi) (z1 : lo ≤ z) (z2 : z < hi) :
    Calls Ybad.prog 66 #[.slice (some ⟨B, off, none⟩) n cap, .int .i64 x, .int .i64 y, .int .i64 z, .pointer (some ⟨S, 0, none⟩)] w fun e w' => (∃ p : Nat, e = .returned (.int .i64 p) ∧ lo ≤ p ∧ p < hi) ∧ Hid (PS w w' S B off n G) := by
  go_enter Ybad.func66, Ybad.ntmps66
  go_wp2_with fail
  go_at_call 73
  refine (order73 S B off n cap lo hi x y G _ h hn hh x1 x2 y1 y2).mono ?_
  rintro e w1 ⟨⟨p, q, rfl, p1, p2, q1, q2⟩, h1⟩
  go_wp2_with fail
  go_at_call 73
  refine (order73 S B off n cap lo hi q z G _ h1.out.start hn hh q1 q2 z1 z2).mono ?_
  rintro e w2 ⟨⟨r, t, rfl, r1, r2, t1, t2⟩, h2⟩
  go_wp2_with fail
  go_at_call 73
  refine (order73 S B off n cap lo hi p r G _ h2.out.start hn hh p1 p2 r1 r2).mono ?_
  rintro e w3 ⟨⟨u, v, rfl, u1, u2, v1, v2⟩, h3⟩
  go_wp2
  go_ret
  exact ⟨⟨v, rfl, v1, v2⟩, h1.out.trans (h2.out.trans h3.out)⟩
set_option maxRecDepth 100000 in
set_option maxHeartbeats 1600000 in
theorem medianAdj65 (S B off n cap lo hi x : Nat) (G : Nat → Int) (w : World) (h : Hid (PS w w S B off n G)) (hn : n ≤ 100000) (hh : hi ≤ n) (x1 : lo < x) (x2 : x + 1 < hi) :
    Calls Ybad.prog 65 #[.slice (some ⟨B, off, none⟩) n cap, .int .i64 x, .pointer (some ⟨S, 0, none⟩)] w fun e w' => (∃ p : Nat, e = .returned (.int .i64 p) ∧ lo ≤ p ∧ p < hi) ∧ Hid (PS w w' S B off n G) := by
  have e1 : (x : Int) - 1 = ((x - 1 : Nat) : Int) := by omega
  go_enter Ybad.func65, Ybad.ntmps65
  go_wp2_with (go_at_call 66; rw [show (x : Int) + 1 = ((x + 1 : Nat) : Int) by omega]; refine (median66 S B off n cap lo hi (x - 1) x (x + 1) G _ h hn hh (by omega) (by omega) (by omega) (by omega) (by omega) (by omega)).mono ?_; rintro e w1 ⟨⟨p, rfl, p1, p2⟩, h1⟩)
  go_ret
  exact ⟨⟨p, rfl, p1, p2⟩, h1⟩
set_option maxRecDepth 100000 in
set_option maxHeartbeats 1600000 in
theorem choose38 (B off n cap a b l : Nat) (G : Nat → Int) (w : World) (h : Hid (R64 w w B off n G)) (hz : (b : Int) - (a : Int) = (l : Int)) (hl : 12 < l) (hb : b ≤ n) (hn : n ≤ 100000) :
    Calls Ybad.prog 38 #[.slice (some ⟨B, off, none⟩) n cap, .int .i64 a, .int .i64 b] w fun e w' => (∃ (p k : Nat), e = .returned (.tuple #[.int .i64 p, .int .i64 k]) ∧ a ≤ p ∧ p < b ∧ k ≤ 2) ∧ Hid (Kept [] w w') := by
  have hp0 : Hid (PS (w.alloc (.cells #[.int .i64 0] 3)) (w.alloc (.cells #[.int .i64 0] 3)) w.heap.size B off n G) := by
    have k : Kept [] w (w.alloc (.cells #[.int .i64 0] 3)) := (Kept.refl _ _).alloc _
    exact ⟨Kept.refl _ _, fun t ht => (k.cell B _ h.out.tag.lt (by simp)).trans (h.out.cell t ht), h.out.tag.kept k (by simp), ⟨0, by rw [World.cell?_alloc_new]; rfl⟩, by simp, tag_last _ _ _ _ rfl⟩
  have q4 : (l : Int).tdiv 4 = ((l / 4 : Nat) : Int) := rfl
  generalize hq : l / 4 = q at q4
  have c1 : (a : Int) + (q : Int) = ((a + q : Nat) : Int) := by omega
  have c2 : (a : Int) + (q : Int) * 2 = ((a + q * 2 : Nat) : Int) := by omega
  have c3 : (a : Int) + (q : Int) * 3 = ((a + q * 3 : Nat) : Int) := by omega
  generalize g1 : a + q = i at c1
  generalize g2 : a + q * 2 = j at c2
  generalize g3 : a + q * 3 = k at c3
  have qb : q * 4 ≤ l ∧ l < q * 4 + 4 := by omega
  have ib : a ≤ i ∧ i < b ∧ a ≤ j ∧ j < b ∧ a ≤ k ∧ k < b := by omega
  have jb : 50 ≤ l → a < i ∧ i + 1 < b ∧ a < j ∧ j + 1 < b ∧ a < k ∧ k + 1 < b := by omega
  obtain ⟨i1, i2, j1, j2, k1, k2⟩ := ib
  clear g1 g2 g3 hq qb
  by_cases hl5 : 50 ≤ l
  · obtain ⟨i3, i4, j3, j4, k3, k4⟩ := jb hl5
    clear jb
    go_enter Ybad.func38, Ybad.ntmps38
    go_wp2_with fail
    go_at_call 65
    refine (medianAdj65 _ B off n cap a b i G _ hp0 hn hb i3 i4).mono ?_
    rintro e w1 ⟨⟨p, rfl, p1, p2⟩, h1⟩
    go_wp2_with fail
    go_at_call 65
    refine (medianAdj65 _ B off n cap a b j G _ h1.out.start hn hb j3 j4).mono ?_
    rintro e w2 ⟨⟨p', rfl, p1', p2'⟩, h2⟩
    go_wp2_with fail
    go_at_call 65
    refine (medianAdj65 _ B off n cap a b k G _ h2.out.start hn hb k3 k4).mono ?_
    rintro e w3 ⟨⟨p'', rfl, p1'', p2''⟩, h3⟩
    go_wp2_with fail
    go_at_call 66
    refine (median66 _ B off n cap a b p p' p'' G _ h3.out.start hn hb p1 p2 p1' p2' p1'' p2'').mono ?_
    rintro e w4 ⟨⟨r, rfl, r1, r2⟩, h4⟩
    have hA : Hid (PS _ w4 w.heap.size B off n G) := h1.out.trans (h2.out.trans (h3.out.trans h4.out))
    clear h1 h2 h3 h4
    obtain ⟨s, hs⟩ := hA.out.sc
    have kk : Hid (Kept [] w w4) := ((Kept.refl [] w).alloc (.cells #[.int .i64 0] 3)).then hA.out.kept (by simp)
    have bp : a ≤ r ∧ r < b := ⟨by omega, by omega⟩
    clear hp0 h
    by_cases s0 : s = 0
    · subst s0
      go_wp2
      go_ret2
      exact ⟨⟨r, 1, rfl, bp.1, bp.2, by omega⟩, kk⟩
    · by_cases s1 : s = 12
      · subst s1
        go_wp2
        go_ret2
        exact ⟨⟨r, 2, rfl, bp.1, bp.2, by omega⟩, kk⟩
      · go_wp2
        go_ret2
        exact ⟨⟨r, 0, rfl, bp.1, bp.2, by omega⟩, kk⟩
  · clear jb
    go_enter Ybad.func38, Ybad.ntmps38
    go_wp2_with fail
    go_at_call 66
    refine (median66 _ B off n cap a b i j k G _ hp0 hn hb i1 i2 j1 j2 k1 k2).mono ?_
    rintro e w4 ⟨⟨r, rfl, r1, r2⟩, hA⟩
    obtain ⟨s, hs⟩ := hA.out.sc
    have kk : Hid (Kept [] w w4) := ((Kept.refl [] w).alloc (.cells #[.int .i64 0] 3)).then hA.out.kept (by simp)
    have bp : a ≤ r ∧ r < b := ⟨by omega, by omega⟩
    clear hp0 h
    by_cases s0 : s = 0
    · subst s0
      go_wp2
      go_ret2
      exact ⟨⟨r, 1, rfl, bp.1, bp.2, by omega⟩, kk⟩
    · by_cases s1 : s = 12
      · subst s1
        go_wp2
        go_ret2
        exact ⟨⟨r, 2, rfl, bp.1, bp.2, by omega⟩, kk⟩
      · go_wp2
        go_ret2
        exact ⟨⟨r, 0, rfl, bp.1, bp.2, by omega⟩, kk⟩
end Go.Proofs.YbulkbnryDoor
