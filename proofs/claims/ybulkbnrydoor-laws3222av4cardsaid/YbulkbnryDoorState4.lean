import Derived.Test.YbulkbnryDoorHold4
import Derived.Test.YbulkbnryDoorSort4
namespace Go.Proofs.YbulkbnryDoor
open Go.RowKit
set_option linter.unusedSimpArgs false
set_option linter.unusedVariables false

structure Ent where
  addr : Nat
  bits : Nat
  place : Nat
def keyOf (b : Nat) (e : Ent) : K4 := ⟨f4 e.addr b, e.place⟩
def build (b : Nat) (es : List Ent) : List K4 := (es.filter fun e => decide (e.bits % 33 = b)).map (keyOf b)
theorem build_take {b : Nat} {es : List Ent} {k : Nat} {e : Ent} (h : es[k]? = some e) : build b (es.take (k + 1)) = build b (es.take k) ++ if e.bits % 33 = b then [keyOf b e] else [] := by
  unfold build
  rw [List.take_add_one, h]
  simp only [Option.toList_some, List.filter_append, List.map_append]
  congr 1
  by_cases hb : e.bits % 33 = b <;> simp [hb]
/-- The networks that came in, as far as they are read. -/
structure EntAt (w : World) (a : Option Addr) (i : Nat) (e : Ent) : Prop where
  at' : ∃ b off, a = some ⟨b, off, none⟩ ∧ b < w.heap.size ∧ w.cell? ⟨b, off + i * 3, none⟩ = some (.int .u32 e.addr) ∧ w.cell? ⟨b, off + i * 3 + 1, none⟩ = some (.int .u8 e.bits) ∧ w.cell? ⟨b, off + i * 3 + 2, none⟩ = some (.int .u16 e.place)
  a : e.addr < 4294967296
  b : e.bits ≤ 255
  p : e.place ≤ 65535
def EntsAt (w : World) (a : Option Addr) (es : List Ent) : Prop := ∀ i e, es[i]? = some e → EntAt w a i e
theorem EntsAt.kept {w w' : World} {a : Option Addr} {es : List Ent} (h : EntsAt w a es) (k : Below w.heap.size w w') : EntsAt w' a es := fun i e he => by
  obtain ⟨⟨b, off, ha, hb, c0, c1, c2⟩, h0, h1, h2⟩ := h i e he
  exact ⟨⟨b, off, ha, Nat.lt_of_lt_of_le hb k.size, (k.cell (p := ⟨b, off + i * 3, none⟩) hb).trans c0, (k.cell (p := ⟨b, off + i * 3 + 1, none⟩) hb).trans c1, (k.cell (p := ⟨b, off + i * 3 + 2, none⟩) hb).trans c2⟩, h0, h1, h2⟩
theorem build_ok {w : World} {a : Option Addr} {es : List Ent} (h : EntsAt w a es) (b k : Nat) : ∀ x ∈ build b (es.take k), x.ok := by
  intro x hx
  unfold build at hx
  obtain ⟨e, he, rfl⟩ := List.mem_map.1 hx
  have he2 : e ∈ es := List.mem_of_mem_take (List.mem_filter.1 he).1
  obtain ⟨i, hi, rfl⟩ := List.getElem_of_mem he2
  exact ⟨f4_lt _ _, (h i _ (List.getElem?_eq_getElem hi)).p⟩
theorem build_len (b : Nat) (es : List Ent) (k : Nat) : (build b (es.take k)).length ≤ k := by
  unfold build
  have h1 := List.length_filter_le (fun e : Ent => decide (e.bits % 33 = b)) (es.take k)
  have h2 : (es.take k).length ≤ k := by simp; omega
  simp; omega
theorem xor32 (x y : Int) : ∃ n : Nat, bits .xor .u32 x y = n ∧ n < 4294967296 := by
  refine ⟨((BitVec.ofInt 32 x) ^^^ (BitVec.ofInt 32 y)).toNat, ?_, BitVec.isLt _⟩
  show IntKind.u32.wrap (((BitVec.ofInt 32 x) ^^^ (BitVec.ofInt 32 y)).toNat : Int) = _
  have := BitVec.isLt ((BitVec.ofInt 32 x) ^^^ (BitVec.ofInt 32 y))
  generalize ((BitVec.ofInt 32 x) ^^^ (BitVec.ofInt 32 y)).toNat = z at this
  rw [IntKind.wrap_u32]; omega
def encK (x : K4) : Value := .int .u64 x.key
/-- The keys' row, ahead of the sort. -/
theorem own_r64 {w : World} {base B n cap : Nat} {ks : List K4} (h : w.ownsRow base 35 1 (.slice (some ⟨B, 0, none⟩) n cap) n (ks.map encK)) (hl : ks.length = n) : R64 w w B 0 n (fun t => (ks.getD t ⟨0, 0⟩).key) := by
  refine ⟨Kept.refl _ _, fun t ht => ?_, fun t ht => ?_, owns_tag h B rfl⟩
  · rw [Nat.zero_add, h.cellAt t (by omega)]
    simp [List.getD, (by omega : t < ks.length), encK]
  · rw [Nat.zero_add]; exact h.frozenAt t
theorem ks_of_sorted {n : Nat} {ks : List K4} {G : Nat → Int} (hl : ks.length = n) (s : Same 0 n (fun t => (ks.getD t ⟨0, 0⟩).key) G) (o : Srt 0 n G) (hok : ∀ x ∈ ks, x.ok) : KS n G ks := by
  refine ⟨fun t ht => ?_, fun x hx => ?_, o, hok⟩
  · obtain ⟨r, _, r2, e⟩ := s.fwd t (Nat.zero_le _) ht
    refine ⟨ks.getD r ⟨0, 0⟩, ?_, e⟩
    simp [List.getD, (by omega : r < ks.length)]
  · obtain ⟨i, hi, rfl⟩ := List.getElem_of_mem hx
    obtain ⟨r, _, r2, e⟩ := s.bwd i (Nat.zero_le _) (by omega)
    refine ⟨r, r2, e.symm.trans ?_⟩
    simp [List.getD, hi]
def encL (l : Lev4) : List Value := [.int .u8 l.bits, .slice (some ⟨l.B, 0, none⟩) l.n l.c]
/-- Between two levels. -/
structure OSt (w wr : World) (TB SB : Nat) (stop : Nat) (lv : List Lev4) (vw : Value) (wl : List Int) : Prop where
  below : Below w.heap.size w wr
  tb : w.heap.size ≤ TB
  tg : Tag wr TB 31
  tc : ∃ vv, wr.cell? ⟨TB, 0, none⟩ = some vv ∧ wr.ownsRow w.heap.size 39 2 vv lv.length (lv.flatMap encL)
  tz : wr.frozen? ⟨TB, 0, none⟩ = false
  lvs : ∀ l ∈ lv, Row4 wr l.B l.n l.G ∧ KS l.n l.G l.ks ∧ l.bits ≤ 32 ∧ l.n ≤ 1024
  want : wr.ownsRow w.heap.size 3 1 vw wl.length (wl.map (Value.int .i64))
  sg : Tag wr SB 5
  sc : wr.cell? ⟨SB, 0, none⟩ = some (.int .u8 stop)
theorem OSt.tl {w wr : World} {TB SB stop : Nat} {lv : List Lev4} {vw : Value} {wl : List Int} (h : OSt w wr TB SB stop lv vw wl) : TB < wr.heap.size := h.tg.lt
theorem OSt.kept {w wr w' : World} {TB SB stop : Nat} {lv : List Lev4} {vw : Value} {wl : List Int} (h : OSt w wr TB SB stop lv vw wl) (k : Kept [] wr w') : OSt w w' TB SB stop lv vw wl := by
  obtain ⟨vv, t1, t2⟩ := h.tc
  refine ⟨h.below.trans (k.below h.below.size (by simp)), h.tb, h.tg.kept k (by simp), ⟨vv, (k.cell TB 0 h.tl (by simp)).trans t1, owns_kept t2 k (by simp)⟩, (k.frozen TB 0 h.tl (by simp)).trans h.tz, fun l hl => ?_, owns_kept h.want k (by simp), h.sg.kept k (by simp), (k.cell SB 0 h.sg.lt (by simp)).trans h.sc⟩
  obtain ⟨r1, r2⟩ := h.lvs l hl
  exact ⟨r1.kept k (by simp), r2⟩
/-- One place more is wanted. -/
theorem OSt.wanted {w wr w' : World} {TB SB stop : Nat} {lv : List Lev4} {vw v' : Value} {wl : List Int} {o : Obj} {p : Int} (h : OSt w wr TB SB stop lv vw wl) (ho : w'.ownsRow w.heap.size 3 1 v' (wl.length + 1) (wl.map (Value.int .i64) ++ [.int .i64 p])) (hg : (wr.alloc o).grownBy w' vw.ownBlock) : OSt w w' TB SB stop lv v' (wl ++ [p]) := by
  have h1 : OSt w (wr.alloc o) TB SB stop lv vw wl := h.kept ((Kept.refl _ _).alloc o)
  have k := grown_kept hg
  have hw : ∀ g, vw.ownBlock = some g → Tag (wr.alloc o) g 3 := fun g hg => owns_tag h1.want g hg
  have ns : ∀ a t, Tag (wr.alloc o) a t → t ≠ 3 → a ∉ vw.ownBlock.toList := by
    intro a t ht htn hm
    rw [Option.mem_toList] at hm
    exact Tag.ne ht (hw a hm) htn rfl
  obtain ⟨vv, t1, t2⟩ := h1.tc
  refine ⟨h1.below.trans (k.below h1.below.size ?_), h1.tb, h1.tg.kept k (ns _ _ h1.tg (by decide)), ⟨vv, (k.cell TB 0 h1.tl (ns _ _ h1.tg (by decide))).trans t1, owns_kept t2 k (fun g hg => ns _ _ (owns_tag t2 g hg) (by decide))⟩, (k.frozen TB 0 h1.tl (ns _ _ h1.tg (by decide))).trans h1.tz, fun l hl => ?_, by simpa using ho, h1.sg.kept k (ns _ _ h1.sg (by decide)), (k.cell SB 0 h1.sg.lt (ns _ _ h1.sg (by decide))).trans h1.sc⟩
  · intro g hg
    rw [Option.mem_toList] at hg
    exact (h1.want.lt g hg).1
  · obtain ⟨r1, r2⟩ := h1.lvs l hl
    exact ⟨r1.kept k (ns _ _ r1.tag (by decide)), r2⟩
/-- One level more. -/
theorem OSt.push {w wr w' : World} {TB SB stop : Nat} {lv : List Lev4} {vw vv v' : Value} {wl : List Int} {o : Obj} {l : Lev4} (h : OSt w wr TB SB stop lv vw wl) (hv : wr.cell? ⟨TB, 0, none⟩ = some vv) (ho : w'.ownsRow w.heap.size 39 2 v' (lv.length + 1) (lv.flatMap encL ++ encL l)) (hg : (wr.alloc o).grownBy w' vv.ownBlock)
    (hl : Row4 wr l.B l.n l.G ∧ KS l.n l.G l.ks ∧ l.bits ≤ 32 ∧ l.n ≤ 1024) : OSt w (w'.setCell ⟨TB, 0, none⟩ v') TB SB stop (lv ++ [l]) vw wl ∧ w'.cell? ⟨TB, 0, none⟩ = some vv ∧ w'.frozen? ⟨TB, 0, none⟩ = false := by
  have h1 : OSt w (wr.alloc o) TB SB stop lv vw wl := h.kept ((Kept.refl _ _).alloc o)
  have hl1 : Row4 (wr.alloc o) l.B l.n l.G := hl.1.kept ((Kept.refl [] _).alloc o) (by simp)
  have k := grown_kept hg
  obtain ⟨v2, t1, t2⟩ := h1.tc
  have hv1 : (wr.alloc o).cell? ⟨TB, 0, none⟩ = some vv := (((Kept.refl [] wr).alloc o).cell TB 0 h.tl (by simp)).trans hv
  obtain rfl : v2 = vv := by rw [hv1] at t1; cases t1; rfl
  have hw : ∀ g, v2.ownBlock = some g → Tag (wr.alloc o) g 39 := fun g hg => owns_tag t2 g hg
  have ns : ∀ a t, Tag (wr.alloc o) a t → t ≠ 39 → a ∉ v2.ownBlock.toList := by
    intro a t ht htn hm
    rw [Option.mem_toList] at hm
    exact Tag.ne ht (hw a hm) htn rfl
  have tg1 : Tag w' TB 31 := h1.tg.kept k (ns _ _ h1.tg (by decide))
  have c1 : w'.cell? ⟨TB, 0, none⟩ = some v2 := (k.cell TB 0 h1.tl (ns _ _ h1.tg (by decide))).trans t1
  have z1 : w'.frozen? ⟨TB, 0, none⟩ = false := (k.frozen TB 0 h1.tl (ns _ _ h1.tg (by decide))).trans h1.tz
  have b1 : Below w.heap.size w w' := h1.below.trans (k.below h1.below.size (by intro g hg; rw [Option.mem_toList] at hg; exact (t2.lt g hg).1))
  have sg1 : Tag w' SB 5 := h1.sg.kept k (ns _ _ h1.sg (by decide))
  have sc1 : w'.cell? ⟨SB, 0, none⟩ = some (.int .u8 stop) := (k.cell SB 0 h1.sg.lt (ns _ _ h1.sg (by decide))).trans h1.sc
  have wa1 : w'.ownsRow w.heap.size 3 1 vw wl.length (wl.map (Value.int .i64)) := owns_kept h1.want k (fun g hg => ns _ _ (owns_tag h1.want g hg) (by decide))
  have lv1 : ∀ m ∈ lv ++ [l], Row4 w' m.B m.n m.G ∧ KS m.n m.G m.ks ∧ m.bits ≤ 32 ∧ m.n ≤ 1024 := by
    intro m hm
    rcases List.mem_append.1 hm with hm | hm
    · obtain ⟨r1, r2⟩ := h1.lvs m hm
      exact ⟨r1.kept k (ns _ _ r1.tag (by decide)), r2⟩
    · simp at hm; subst hm
      exact ⟨hl1.kept k (ns _ _ hl1.tag (by decide)), hl.2⟩
  have k2 : Kept [TB] w' (w'.setCell ⟨TB, 0, none⟩ v') := (Kept.refl _ _).setCell (p := ⟨TB, 0, none⟩) (.inl (by simp)) _
  have n2 : ∀ a t, Tag w' a t → t ≠ 31 → a ∉ [TB] := by
    intro a t ht htn hm
    simp at hm
    exact Tag.ne ht tg1 htn hm
  refine ⟨⟨b1.trans (k2.below b1.size (by simp; exact h1.tb)), h1.tb, tg1.set _ _, ⟨v', World.cell?_setCell_same _ _ _ c1, by simpa using owns_kept ho k2 (fun g hg => n2 _ _ (owns_tag ho g hg) (by decide))⟩, by simpa using z1, fun m hm => ?_, owns_kept wa1 k2 (fun g hg => n2 _ _ (owns_tag wa1 g hg) (by decide)), sg1.kept k2 (n2 _ _ sg1 (by decide)), (k2.cell SB 0 sg1.lt (n2 _ _ sg1 (by decide))).trans sc1⟩, c1, z1⟩
  obtain ⟨r1, r2⟩ := lv1 m hm
  exact ⟨r1.kept k2 (n2 _ _ r1.tag (by decide)), r2⟩
/-- Inside a level. -/
structure ISt (wb wr : World) (b : Nat) (es : List Ent) (F : Nat) (k : Nat) (v : Value) (ks : List K4) (bo : Option Int) : Prop where
  own : wr.ownsRow wb.heap.size 35 1 v ks.length (ks.map encK)
  nse : ks = build b (es.take k)
  boe : bo = best F ks
  kept : Kept [] wb wr
theorem ISt.skip {wb wr w' : World} {b : Nat} {es : List Ent} {F : Nat} {k : Nat} {v : Value} {ks : List K4} {bo : Option Int} (h : ISt wb wr b es F k v ks bo) (kk : Kept [] wr w') (e : build b (es.take (k + 1)) = build b (es.take k)) : ISt wb w' b es F (k + 1) v ks bo :=
  ⟨owns_kept h.own kk (by simp), h.nse.trans e.symm, h.boe, h.kept.trans kk⟩
theorem ISt.add {wb wr w' : World} {b : Nat} {es : List Ent} {F : Nat} {k : Nat} {v v' : Value} {ks : List K4} {bo : Option Int} {x : K4} (h : ISt wb wr b es F k v ks bo) (ho : w'.ownsRow wb.heap.size 35 1 v' (ks.length + 1) (ks.map encK ++ [encK x])) (kk : Kept [] wb w') (e : build b (es.take (k + 1)) = build b (es.take k) ++ [x]) : ISt wb w' b es F (k + 1) v' (ks ++ [x]) (best1 F bo x) :=
  ⟨by simpa using ho, by rw [e, h.nse], by rw [best_snoc, h.boe], kk⟩
theorem spot_new {x : Nat} {b B n c F : Nat} {G : Nat → Int} {ks : List K4} {bo : Option Int} (hm : f4 x b = F) (hb : bo = best F ks) : spot x ⟨b, B, n, c, G, ks⟩ = bo := by
  rw [hb]; unfold spot; simp only; rw [hm]
theorem found_snoc (x : Int) (lv : List Lev4) (l : Lev4) : found x (lv ++ [l]) = found x lv ++ (spot x l).toList := by
  unfold found; rw [List.filterMap_append]
  cases h : spot x l <;> simp [h]
theorem best_nil (F : Nat) : best F [] = none := rfl
theorem Ybad.info35 : (Ybad.prog.info? 35).map (fun i => (i.zero, i.size, i.bytes)) = some (some (.int .u64 0), 1, 8) := by kernel_rfl
theorem Ybad.info39 : (Ybad.prog.info? 39).map (fun i => (i.zero, i.size, i.bytes)) = some (some (.agg #[.int .u8 0, .slice none 0 0]), 2, 32) := by kernel_rfl
def reslice : Value → Nat → Value
  | .slice a _ c, m => .slice a m c
  | v, _ => v
def cutN (n s : Nat) : Nat := if 0 < s ∧ s < n then s else n
theorem cutN_le (n s : Nat) : cutN n s ≤ n := by unfold cutN; split <;> omega
theorem cutL_take (l : List Int) (s : Nat) : cutL l s = l.take (cutN l.length s) := by
  unfold cutL cutN; split
  · rfl
  · simp
set_option maxHeartbeats 800000 in
theorem cut_any (v : Value) (n base : Nat) (xs : List Value) (stop : Nat) (w : World) (h : w.ownsRow base 3 1 v n xs) (hn : n ≤ 100000) (hst : stop ≤ 255) :
    Calls Ybad.prog 7 #[v, .int .u8 stop] w fun e w' => e = .returned (reslice v (cutN n stop)) ∧ w' = w := by
  by_cases hc : 0 < stop ∧ stop < n
  · rcases h.2 with ⟨rfl, h0⟩ | ⟨g, cap, cur, rfl, hb, hcur, hcap, hmx, _⟩
    · omega
    · have h1 := hc.1
      have h2 := hc.2
      have e : cutN n stop = stop := by unfold cutN; rw [if_pos hc]
      rw [e]
      have hm2 : cap ≤ 9223372036854775807 := hmx
      clear hcur
      go_enter Ybad.func7, Ybad.ntmps7
      go_wp2
      go_ret
      exact ⟨rfl, rfl⟩
  · have e : cutN n stop = n := by unfold cutN; rw [if_neg hc]
    rw [e]
    have e2 : reslice v n = v := by
      rcases h.2 with ⟨rfl, rfl⟩ | ⟨g, cap, cur, rfl, _⟩ <;> rfl
    rw [e2]
    obtain ⟨a, c, rfl⟩ : ∃ a c, v = .slice a n c := by
      rcases h.2 with ⟨rfl, rfl⟩ | ⟨g, cap, cur, rfl, _⟩
      · exact ⟨_, _, rfl⟩
      · exact ⟨_, _, rfl⟩
    clear h
    by_cases h1 : 0 < stop
    · have h2 : ¬ stop < n := fun h => hc ⟨h1, h⟩
      go_enter Ybad.func7, Ybad.ntmps7
      go_wp2
      go_ret
      exact ⟨rfl, rfl⟩
    · obtain rfl : stop = 0 := by omega
      go_enter Ybad.func7, Ybad.ntmps7
      go_wp2
      go_ret
      exact ⟨rfl, rfl⟩

theorem equal_same (B1 B2 : Nat) (v1 v2 : Value) (l wl : List Int) (m : Nat) (w : World) (h1 : w.ownsRow B1 3 1 v1 l.length (l.map (Value.int .i64))) (h2 : w.ownsRow B2 3 1 v2 wl.length (wl.map (Value.int .i64))) (hm : m ≤ wl.length) (hl : l = wl.take m) (hb : wl.length ≤ 100000) :
    Calls Ybad.prog 11 #[v1, reslice v2 m] w fun e w' => e = .returned (.bool true) ∧ ∃ q, w' = w.drewN q := by
  have hlen : l.length = m := by rw [hl]; simp; omega
  by_cases h0 : m = 0
  · subst h0
    obtain ⟨a1, c1, rfl⟩ : ∃ a c, v1 = .slice a 0 c := by
      rcases h1.2 with ⟨rfl, e⟩ | ⟨g, cap, cur, rfl, _⟩
      · exact ⟨_, _, rfl⟩
      · rw [hlen]; exact ⟨_, _, rfl⟩
    obtain ⟨a2, c2, e2⟩ : ∃ a c, reslice v2 0 = .slice a 0 c := by
      rcases h2.2 with ⟨rfl, e⟩ | ⟨g, cap, cur, rfl, _⟩
      · exact ⟨_, _, rfl⟩
      · exact ⟨_, _, rfl⟩
    rw [e2]
    exact (Ybad.slices_Equal_int_empty a1 a2 c1 0 c2 w (by omega)).mono fun e w' ⟨he, hw⟩ => ⟨by rw [he]; rfl, 0, by rw [hw]; rfl⟩
  · rcases h1.2 with ⟨rfl, e⟩ | ⟨g, cap, cur, rfl, hb1, _⟩
    · omega
    · rcases h2.2 with ⟨rfl, e⟩ | ⟨g2, cap2, cur2, rfl, hb2, _⟩
      · omega
      · have hc1 : ∀ j, j < l.length → w.cell? ⟨g, 0 + j, none⟩ = some (.int .i64 (l.getD j 0)) := by
          intro j hj
          rw [Nat.zero_add, h1.cellAt j (by omega)]
          simp [List.getD, hj]
        have hc2 : ∀ j, j < wl.length → w.cell? ⟨g2, 0 + j, none⟩ = some (.int .i64 (wl.getD j 0)) := by
          intro j hj
          rw [Nat.zero_add, h2.cellAt j (by omega)]
          simp [List.getD, hj]
        have := Ybad.slices_Equal_int g 0 l.length cap g2 0 m cap2 l wl w (Nat.le_refl _) hm (by omega) (by omega) hc1 hc2
        refine this.mono fun e w' ⟨he, hw⟩ => ⟨?_, hw⟩
        rw [he, ← hl]
        simp

theorem encL_get (lv : List Lev4) : ∀ i l, lv[i]? = some l → (lv.flatMap encL)[i * 2]? = some (.int .u8 l.bits) ∧ (lv.flatMap encL)[i * 2 + 1]? = some (.slice (some ⟨l.B, 0, none⟩) l.n l.c) := by
  induction lv with
  | nil => intro i l h; simp at h
  | cons a r ih =>
    intro i l h
    rw [List.flatMap_cons]
    cases i with
    | zero => simp at h; subst h; exact ⟨rfl, rfl⟩
    | succ i =>
      have h2 := ih i l (by simpa using h)
      have e : (encL a).length = 2 := rfl
      rw [List.getElem?_append_right (by rw [e]; omega), List.getElem?_append_right (by rw [e]; omega), e]
      rw [show (i + 1) * 2 - 2 = i * 2 from by omega, show (i + 1) * 2 + 1 - 2 = i * 2 + 1 from by omega]
      exact h2
theorem OSt.levs {w w4 : World} {TB SB stop VB k cap LB : Nat} {lv : List Lev4} {vw : Value} {wl : List Int} (h : OSt w w4 TB SB stop lv vw wl) (hL : Tag w4 LB 32) (hc : w4.cell? ⟨TB, 0, none⟩ = some (.slice (some ⟨VB, 0, none⟩) k cap)) :
    LevsAt w4 VB w4.heap.size LB lv ∧ VB < w4.heap.size ∧ VB ≠ LB ∧ lv.length = k := by
  obtain ⟨vv, t1, t2⟩ := h.tc
  rw [hc] at t1
  obtain rfl : .slice (some ⟨VB, 0, none⟩) k cap = vv := by simpa using t1
  have hk : lv.length = k := by
    rcases t2.2 with ⟨e, _⟩ | ⟨g, c, cur, e, _⟩
    · cases e
    · cases e; rfl
  have tv : Tag w4 VB 39 := owns_tag t2 VB rfl
  refine ⟨fun i l hl => ?_, tv.lt, tv.ne hL (by decide), hk⟩
  have hi : i < lv.length := (List.getElem?_eq_some_iff.1 hl).1
  obtain ⟨r1, r2, r3, r4⟩ := h.lvs l (List.mem_of_getElem? hl)
  obtain ⟨e0, e1⟩ := encL_get lv i l hl
  subst hk
  exact ⟨by rw [t2.cellAt _ (by omega)]; exact e0, by rw [t2.cellAt _ (by omega)]; exact e1, r1, r2, r3, r4, r1.tag.lt, Tag.ne r1.tag hL (by decide)⟩
theorem hold_all (x lo : Nat) (p4 : Addr) (w w4 : World) (TB SB LB stop : Nat) (lv : List Lev4) (vw : Value) (wl : List Int) (hx : x < 4294967296) (hlo : lo = 281470681743360 + x)
    (hzs : Z4 w4 p4) (h : OSt w w4 TB SB stop lv vw wl) (hL : Tag w4 LB 32) (hc : w4.cell? ⟨LB, 0, none⟩ = some (.slice none 0 0)) (hf : w4.frozen? ⟨LB, 0, none⟩ = false) (hlv : lv.length ≤ 1000) (hst : stop ≤ 255) :
    Calls Ybad.prog 10 #[.pointer (some ⟨TB, 0, none⟩), .agg #[.int .u64 0, .int .u64 lo, .pointer (some p4)], .func (.func 8) #[] #[.pointer (some ⟨LB, 0, none⟩), .pointer (some ⟨SB, 0, none⟩)]] w4 fun e w' => e = .returned (.tuple #[]) ∧ Hid (LogAt w' LB SB w4.heap.size (cutL (found x lv) stop) stop) ∧ Hid (Held w4.heap.size [LB] w4 w') := by
  have hlog : LogAt w4 LB SB w4.heap.size [] stop := ⟨hL.lt, h.sg.lt, ⟨_, hc, World.ownsRow_nil _ _ _ _⟩, hf, h.sc⟩
  obtain ⟨vv, t1, t2⟩ := h.tc
  rcases t2.2 with ⟨rfl, h0⟩ | ⟨g, cap, cur, rfl, _⟩
  · obtain rfl : lv = [] := List.eq_nil_of_length_eq_zero h0
    refine (holding4_nil TB LB SB w4.heap.size stop x lo p4 w4 hx hlo hzs h.tl t1 hlog (Nat.le_refl _)).mono fun e w' ⟨a, b, c⟩ => ⟨a, ?_, c⟩
    have : cutL (found x []) stop = [] := by unfold cutL found; simp
    rw [this]; exact b
  · obtain ⟨a1, a2, a3, a4⟩ := h.levs hL t1
    exact holding4 TB g LB SB w4.heap.size stop lv.length cap x lo p4 lv w4 hx hlo hzs h.tl t1 rfl (by omega) a1 hlog (Nat.le_refl _) a2 hL.lt h.sg.lt a3 (Tag.ne hL h.sg (by decide)) hst
theorem owns_held {w w' : World} {base e size n Z : Nat} {v : Value} {xs : List Value} (h : w.ownsRow base e size v n xs) {S : List Nat} (k : Held Z S w w') (hs : ∀ g, v.ownBlock = some g → g < Z ∧ g ∉ S) : w'.ownsRow base e size v n xs := by
  obtain ⟨h1, h2 | ⟨g, cap, cur, rfl, a, b, c⟩⟩ := h
  · exact ⟨h1, .inl h2⟩
  · refine ⟨h1, .inr ⟨g, cap, cur, rfl, a, ?_, c⟩⟩
    rw [k.block g (hs g rfl).1 (hs g rfl).2]; exact b
end Go.Proofs.YbulkbnryDoor
