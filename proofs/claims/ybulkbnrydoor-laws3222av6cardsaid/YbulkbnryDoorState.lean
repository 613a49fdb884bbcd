import Derived.Test.YbulkbnryDoorBest6
import Derived.Lib.EndianBits
namespace Go.Proofs.YbulkbnryDoor
open Go.RowKit
set_option linter.unusedSimpArgs false
set_option linter.unusedVariables false

/-- The networks that came in, as far as they are read. -/
structure EntAt (w : World) (a : Option Addr) (i : Nat) (e : Ent) : Prop where
  at' : ∃ b off, a = some ⟨b, off, none⟩ ∧ b < w.heap.size ∧ w.cell? ⟨b, off + i * 4, none⟩ = some (.int .u64 e.hi) ∧ w.cell? ⟨b, off + i * 4 + 1, none⟩ = some (.int .u64 e.lo) ∧ w.cell? ⟨b, off + i * 4 + 2, none⟩ = some (.int .u8 e.bits) ∧ w.cell? ⟨b, off + i * 4 + 3, none⟩ = some (.int .u16 e.place)
  b : e.bits ≤ 255
  p : e.place ≤ 65535
def EntsAt (w : World) (a : Option Addr) (es : List Ent) : Prop := ∀ i e, es[i]? = some e → EntAt w a i e
theorem EntsAt.kept {w w' : World} {a : Option Addr} {es : List Ent} (h : EntsAt w a es) (k : Below w.heap.size w w') : EntsAt w' a es := fun i e he => by
  obtain ⟨⟨b, off, ha, hb, c0, c1, c2, c3⟩, h1, h2⟩ := h i e he
  exact ⟨⟨b, off, ha, Nat.lt_of_lt_of_le hb k.size, (k.cell (p := ⟨b, off + i * 4, none⟩) hb).trans c0, (k.cell (p := ⟨b, off + i * 4 + 1, none⟩) hb).trans c1, (k.cell (p := ⟨b, off + i * 4 + 2, none⟩) hb).trans c2, (k.cell (p := ⟨b, off + i * 4 + 3, none⟩) hb).trans c3⟩, h1, h2⟩
theorem xor64 (x y : Int) : ∃ n : Nat, bits .xor .u64 x y = n ∧ n < 18446744073709551616 := by
  refine ⟨((BitVec.ofInt 64 x) ^^^ (BitVec.ofInt 64 y)).toNat, ?_, BitVec.isLt _⟩
  show IntKind.u64.wrap (((BitVec.ofInt 64 x) ^^^ (BitVec.ofInt 64 y)).toNat : Int) = _
  exact u64_wrap_id _ (Int.natCast_nonneg _) (by have := BitVec.isLt ((BitVec.ofInt 64 x) ^^^ (BitVec.ofInt 64 y)); omega)

theorem tag_last (w : World) (c : Array Value) (t b : Nat) (hb : b = w.heap.size) : ∃ cur, (w.alloc (.cells c t)).heap[b]? = some (.cells cur t (0, 0)) := by
  subst hb; exact ⟨c, heap_alloc_new w _⟩
theorem tag_old {w : World} {o : Obj} {b t : Nat} (hb : b < w.heap.size) (h : ∃ cur, w.heap[b]? = some (.cells cur t (0, 0))) : ∃ cur, (w.alloc o).heap[b]? = some (.cells cur t (0, 0)) := by
  obtain ⟨c, hc⟩ := h; exact ⟨c, (Below.heap_alloc w o b hb).trans hc⟩
def Tag (w : World) (b t : Nat) : Prop := ∃ cur, w.heap[b]? = some (.cells cur t (0, 0))
theorem Tag.ne {w : World} {a b s t : Nat} (h : Tag w a s) (k : Tag w b t) (hst : s ≠ t) : a ≠ b := by
  rintro rfl
  obtain ⟨c, hc⟩ := h
  obtain ⟨d, hd⟩ := k
  rw [hc] at hd; cases hd; exact hst rfl
theorem Tag.lt {w : World} {a s : Nat} (h : Tag w a s) : a < w.heap.size := by obtain ⟨c, hc⟩ := h; exact (Array.getElem?_eq_some_iff.1 hc).1
theorem Tag.kept {S : List Nat} {w w' : World} {a s : Nat} (h : Tag w a s) (k : Kept S w w') (hs : a ∉ S) : Tag w' a s := by
  obtain ⟨c, hc⟩ := h; exact ⟨c, (k.block a (Array.getElem?_eq_some_iff.1 hc).1 hs).trans hc⟩
theorem Tag.set {w : World} {a s : Nat} (h : Tag w a s) (i : Nat) (v : Value) : Tag (w.setCell ⟨a, i, none⟩ v) a s := by
  obtain ⟨c, hc⟩ := h
  refine ⟨c.setIfInBounds i v, ?_⟩
  show ((w.heap.modify a _)[a]? : Option Obj) = _
  rw [Array.getElem?_modify, if_pos rfl, hc]
  rfl
theorem owns_tag {w : World} {base e size n : Nat} {v : Value} {xs : List Value} (h : w.ownsRow base e size v n xs) (g : Nat) (hg : v.ownBlock = some g) : Tag w g e := by
  obtain ⟨_, h2 | ⟨g', cap, cur, rfl, _, b, _⟩⟩ := h
  · rw [h2.1] at hg; cases hg
  · cases hg; exact ⟨cur, b⟩
theorem grown_kept {w w' : World} {row : Option Nat} (hg : w.grownBy w' row) : Kept row.toList w w' :=
  ⟨hg.os, hg.tape, hg.output, hg.size, fun k hk hn => hg.block k hk (fun e => hn (by rw [← e]; simp))⟩
theorem owns_kept {w w' : World} {base e size n : Nat} {v : Value} {xs : List Value} (h : w.ownsRow base e size v n xs) {S : List Nat} (k : Kept S w w') (hs : ∀ g, v.ownBlock = some g → g ∉ S) : w'.ownsRow base e size v n xs := by
  obtain ⟨h1, h2 | ⟨g, cap, cur, rfl, a, b, c⟩⟩ := h
  · exact ⟨h1, .inl h2⟩
  · refine ⟨h1, .inr ⟨g, cap, cur, rfl, a, ?_, c⟩⟩
    rw [k.block g (Array.getElem?_eq_some_iff.1 b).1 (hs g rfl)]; exact b
def encL (l : Lev) : List Value := [.int .u8 l.bits, .slice (some ⟨l.B, 0, none⟩) l.n l.c]
/-- Between two levels. -/
structure OSt (w wr : World) (TB SB : Nat) (stop : Nat) (lv : List Lev) (vw : Value) (wl : List Int) : Prop where
  below : Below w.heap.size w wr
  tb : w.heap.size ≤ TB
  tg : Tag wr TB 31
  tc : ∃ vv, wr.cell? ⟨TB, 1, none⟩ = some vv ∧ wr.ownsRow w.heap.size 68 2 vv lv.length (lv.flatMap encL)
  tz : wr.frozen? ⟨TB, 1, none⟩ = false
  lvs : ∀ l ∈ lv, Row6 wr l.B l.ns ∧ l.ns.length = l.n ∧ Asc l.ns ∧ l.bits ≤ 128 ∧ l.n ≤ 1024
  want : wr.ownsRow w.heap.size 3 1 vw wl.length (wl.map (Value.int .i64))
  sg : Tag wr SB 5
  sc : wr.cell? ⟨SB, 0, none⟩ = some (.int .u8 stop)
theorem OSt.tl {w wr : World} {TB SB stop : Nat} {lv : List Lev} {vw : Value} {wl : List Int} (h : OSt w wr TB SB stop lv vw wl) : TB < wr.heap.size := h.tg.lt
theorem OSt.kept {w wr w' : World} {TB SB stop : Nat} {lv : List Lev} {vw : Value} {wl : List Int} (h : OSt w wr TB SB stop lv vw wl) (k : Kept [] wr w') : OSt w w' TB SB stop lv vw wl := by
  obtain ⟨vv, t1, t2⟩ := h.tc
  refine ⟨h.below.trans (k.below h.below.size (by simp)), h.tb, h.tg.kept k (by simp), ⟨vv, (k.cell TB 1 h.tl (by simp)).trans t1, owns_kept t2 k (by simp)⟩, (k.frozen TB 1 h.tl (by simp)).trans h.tz, fun l hl => ?_, owns_kept h.want k (by simp), h.sg.kept k (by simp), (k.cell SB 0 h.sg.lt (by simp)).trans h.sc⟩
  obtain ⟨r1, r2⟩ := h.lvs l hl
  exact ⟨r1.kept k (by simp), r2⟩
/-- One place more is wanted. -/
theorem OSt.wanted {w wr w' : World} {TB SB stop : Nat} {lv : List Lev} {vw v' : Value} {wl : List Int} {o : Obj} {p : Int} (h : OSt w wr TB SB stop lv vw wl) (ho : w'.ownsRow w.heap.size 3 1 v' (wl.length + 1) (wl.map (Value.int .i64) ++ [.int .i64 p])) (hg : (wr.alloc o).grownBy w' vw.ownBlock) : OSt w w' TB SB stop lv v' (wl ++ [p]) := by
  have h1 : OSt w (wr.alloc o) TB SB stop lv vw wl := h.kept ((Kept.refl _ _).alloc o)
  have k := grown_kept hg
  have hw : ∀ g, vw.ownBlock = some g → Tag (wr.alloc o) g 3 := fun g hg => owns_tag h1.want g hg
  have ns : ∀ a t, Tag (wr.alloc o) a t → t ≠ 3 → a ∉ vw.ownBlock.toList := by
    intro a t ht htn hm
    rw [Option.mem_toList] at hm
    exact Tag.ne ht (hw a hm) htn rfl
  obtain ⟨vv, t1, t2⟩ := h1.tc
  refine ⟨h1.below.trans (k.below h1.below.size ?_), h1.tb, h1.tg.kept k (ns _ _ h1.tg (by decide)), ⟨vv, (k.cell TB 1 h1.tl (ns _ _ h1.tg (by decide))).trans t1, owns_kept t2 k (fun g hg => ns _ _ (owns_tag t2 g hg) (by decide))⟩, (k.frozen TB 1 h1.tl (ns _ _ h1.tg (by decide))).trans h1.tz, fun l hl => ?_, by simpa using ho, h1.sg.kept k (ns _ _ h1.sg (by decide)), (k.cell SB 0 h1.sg.lt (ns _ _ h1.sg (by decide))).trans h1.sc⟩
  · intro g hg
    rw [Option.mem_toList] at hg
    exact (h1.want.lt g hg).1
  · obtain ⟨r1, r2⟩ := h1.lvs l hl
    exact ⟨r1.kept k (ns _ _ r1.tag (by decide)), r2⟩
/-- One level more. -/
theorem OSt.push {w wr w' : World} {TB SB stop : Nat} {lv : List Lev} {vw vv v' : Value} {wl : List Int} {o : Obj} {l : Lev} (h : OSt w wr TB SB stop lv vw wl) (hv : wr.cell? ⟨TB, 1, none⟩ = some vv) (ho : w'.ownsRow w.heap.size 68 2 v' (lv.length + 1) (lv.flatMap encL ++ encL l)) (hg : (wr.alloc o).grownBy w' vv.ownBlock)
    (hl : Row6 wr l.B l.ns ∧ l.ns.length = l.n ∧ Asc l.ns ∧ l.bits ≤ 128 ∧ l.n ≤ 1024) : OSt w (w'.setCell ⟨TB, 1, none⟩ v') TB SB stop (lv ++ [l]) vw wl ∧ w'.cell? ⟨TB, 1, none⟩ = some vv ∧ w'.frozen? ⟨TB, 1, none⟩ = false := by
  have h1 : OSt w (wr.alloc o) TB SB stop lv vw wl := h.kept ((Kept.refl _ _).alloc o)
  have hl1 : Row6 (wr.alloc o) l.B l.ns := hl.1.kept ((Kept.refl [] _).alloc o) (by simp)
  have k := grown_kept hg
  obtain ⟨v2, t1, t2⟩ := h1.tc
  have hv1 : (wr.alloc o).cell? ⟨TB, 1, none⟩ = some vv := (((Kept.refl [] wr).alloc o).cell TB 1 h.tl (by simp)).trans hv
  obtain rfl : v2 = vv := by rw [hv1] at t1; cases t1; rfl
  have hw : ∀ g, v2.ownBlock = some g → Tag (wr.alloc o) g 68 := fun g hg => owns_tag t2 g hg
  have ns : ∀ a t, Tag (wr.alloc o) a t → t ≠ 68 → a ∉ v2.ownBlock.toList := by
    intro a t ht htn hm
    rw [Option.mem_toList] at hm
    exact Tag.ne ht (hw a hm) htn rfl
  have tg1 : Tag w' TB 31 := h1.tg.kept k (ns _ _ h1.tg (by decide))
  have c1 : w'.cell? ⟨TB, 1, none⟩ = some v2 := (k.cell TB 1 h1.tl (ns _ _ h1.tg (by decide))).trans t1
  have z1 : w'.frozen? ⟨TB, 1, none⟩ = false := (k.frozen TB 1 h1.tl (ns _ _ h1.tg (by decide))).trans h1.tz
  have b1 : Below w.heap.size w w' := h1.below.trans (k.below h1.below.size (by intro g hg; rw [Option.mem_toList] at hg; exact (t2.lt g hg).1))
  have sg1 : Tag w' SB 5 := h1.sg.kept k (ns _ _ h1.sg (by decide))
  have sc1 : w'.cell? ⟨SB, 0, none⟩ = some (.int .u8 stop) := (k.cell SB 0 h1.sg.lt (ns _ _ h1.sg (by decide))).trans h1.sc
  have wa1 : w'.ownsRow w.heap.size 3 1 vw wl.length (wl.map (Value.int .i64)) := owns_kept h1.want k (fun g hg => ns _ _ (owns_tag h1.want g hg) (by decide))
  have lv1 : ∀ m ∈ lv ++ [l], Row6 w' m.B m.ns ∧ m.ns.length = m.n ∧ Asc m.ns ∧ m.bits ≤ 128 ∧ m.n ≤ 1024 := by
    intro m hm
    rcases List.mem_append.1 hm with hm | hm
    · obtain ⟨r1, r2⟩ := h1.lvs m hm
      exact ⟨r1.kept k (ns _ _ r1.tag (by decide)), r2⟩
    · simp at hm; subst hm
      exact ⟨hl1.kept k (ns _ _ hl1.tag (by decide)), hl.2⟩
  have k2 : Kept [TB] w' (w'.setCell ⟨TB, 1, none⟩ v') := (Kept.refl _ _).setCell (p := ⟨TB, 1, none⟩) (.inl (by simp)) _
  have n2 : ∀ a t, Tag w' a t → t ≠ 31 → a ∉ [TB] := by
    intro a t ht htn hm
    simp at hm
    exact Tag.ne ht tg1 htn hm
  refine ⟨⟨b1.trans (k2.below b1.size (by simp; exact h1.tb)), h1.tb, tg1.set _ _, ⟨v', World.cell?_setCell_same _ _ _ c1, by simpa using owns_kept ho k2 (fun g hg => n2 _ _ (owns_tag ho g hg) (by decide))⟩, by simpa using z1, fun m hm => ?_, owns_kept wa1 k2 (fun g hg => n2 _ _ (owns_tag wa1 g hg) (by decide)), sg1.kept k2 (n2 _ _ sg1 (by decide)), (k2.cell SB 0 sg1.lt (n2 _ _ sg1 (by decide))).trans sc1⟩, c1, z1⟩
  obtain ⟨r1, r2⟩ := lv1 m hm
  exact ⟨r1.kept k2 (n2 _ _ r1.tag (by decide)), r2⟩
/-- Inside a level. -/
structure ISt (wb wr : World) (b : Nat) (es : List Ent) (ah al : Int) (k : Nat) (v : Value) (ns : List Net) (bo : Option Int) : Prop where
  own : wr.ownsRow wb.heap.size 61 3 v ns.length (ns.flatMap enc6)
  nse : ns = build b (es.take k)
  boe : bo = best ah al ns
  kept : Kept [] wb wr
theorem ISt.skip {wb wr w' : World} {b : Nat} {es : List Ent} {ah al : Int} {k : Nat} {v : Value} {ns : List Net} {bo : Option Int} (h : ISt wb wr b es ah al k v ns bo) (kk : Kept [] wr w') (e : build b (es.take (k + 1)) = build b (es.take k)) : ISt wb w' b es ah al (k + 1) v ns bo :=
  ⟨owns_kept h.own kk (by simp), h.nse.trans e.symm, h.boe, h.kept.trans kk⟩
theorem ISt.add {wb wr w' : World} {b : Nat} {es : List Ent} {ah al : Int} {k : Nat} {v v' : Value} {ns : List Net} {bo : Option Int} {x : Net} (h : ISt wb wr b es ah al k v ns bo) (ho : w'.ownsRow wb.heap.size 61 3 v' (ns.length + 1) (ns.flatMap enc6 ++ enc6 x)) (kk : Kept [] wb w') (e : build b (es.take (k + 1)) = build b (es.take k) ++ [x]) : ISt wb w' b es ah al (k + 1) v' (ns ++ [x]) (best1 ah al bo x) :=
  ⟨by simpa using ho, by rw [e, h.nse], by rw [best_snoc, h.boe], kk⟩
theorem news3 (w : World) (x y z : Value) (t b : Nat) (hb : b = w.heap.size) : ∀ j u, [x, y, z][j]? = some u → (w.alloc (.cells #[x, y, z] t)).cell? ((⟨b, 0, none⟩ : Addr).add j) = some u := by
  intro j u hu
  have e : (⟨b, 0, none⟩ : Addr).add j = ⟨b, j, none⟩ := by unfold Addr.add; split <;> simp_all
  subst hb
  rw [e, World.cell?_alloc_new]
  simpa using hu
theorem news2 (w : World) (x y : Value) (t b : Nat) (hb : b = w.heap.size) : ∀ j u, [x, y][j]? = some u → (w.alloc (.cells #[x, y] t)).cell? ((⟨b, 0, none⟩ : Addr).add j) = some u := by
  intro j u hu
  have e : (⟨b, 0, none⟩ : Addr).add j = ⟨b, j, none⟩ := by unfold Addr.add; split <;> simp_all
  subst hb
  rw [e, World.cell?_alloc_new]
  simpa using hu
theorem build_len (b : Nat) (es : List Ent) (k : Nat) : (build b (es.take k)).length ≤ k := by
  unfold build
  have h1 := List.length_filter_le (fun e : Ent => decide (e.bits % 129 = b)) (es.take k)
  have h2 : (es.take k).length ≤ k := by simp; omega
  simp; omega

theorem spot_new {x y : Nat} {b B n c : Nat} {ah al : Int} {ns : List Net} {bo : Option Int} (hm : m6 x y b = (ah, al)) (hb : bo = best ah al ns) : spot x y ⟨b, B, n, c, sorted6 ns⟩ = bo := by
  rw [hb, best_look]; unfold spot; simp only; rw [hm]
theorem found_snoc (x y : Int) (lv : List Lev) (l : Lev) : found x y (lv ++ [l]) = found x y lv ++ (spot x y l).toList := by
  unfold found; rw [List.filterMap_append]
  cases h : spot x y l <;> simp [h]
theorem sorted6_len (ns : List Net) : (sorted6 ns).length = ns.length := by unfold sorted6; exact List.length_mergeSort _
theorem news1 (w : World) (x : Value) (t b : Nat) (hb : b = w.heap.size) : ∀ j u, [x][j]? = some u → (w.alloc (.cells #[x] t)).cell? ((⟨b, 0, none⟩ : Addr).add j) = some u := by
  intro j u hu
  have e : (⟨b, 0, none⟩ : Addr).add j = ⟨b, j, none⟩ := by unfold Addr.add; split <;> simp_all
  subst hb
  rw [e, World.cell?_alloc_new]
  simpa using hu
theorem best_nil (a b : Int) : best a b [] = none := rfl
theorem Ybad.info61 : (Ybad.prog.info? 61).map (fun i => (i.zero, i.size, i.bytes)) = some (some (.agg #[.int .u64 0, .int .u64 0, .int .i64 0]), 3, 24) := by kernel_rfl
theorem Ybad.info68 : (Ybad.prog.info? 68).map (fun i => (i.zero, i.size, i.bytes)) = some (some (.agg #[.int .u8 0, .slice none 0 0]), 2, 32) := by kernel_rfl
end Go.Proofs.YbulkbnryDoor
