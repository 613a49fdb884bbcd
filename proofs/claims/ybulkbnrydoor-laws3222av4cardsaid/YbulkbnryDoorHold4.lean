import Derived.Test.YbulkbnryDoorVisit
import Derived.Test.YbulkbnryDoorFind4
import Derived.Test.YbulkbnryDoorAddr4
namespace Go.Proofs.YbulkbnryDoor
open Go.RowKit
set_option linter.unusedSimpArgs false
set_option linter.unusedVariables false

set_option maxRecDepth 100000 in
set_option maxHeartbeats 1600000 in
theorem visit8 (LB SB Z stop : Nat) (lg : List Int) (place : Int) (w : World) (h : Hid (LogAt w LB SB Z lg stop)) (hZ : Z ≤ w.heap.size) (zL : LB < Z) (zS : SB < Z) (ne : ¬ LB = SB) (hl : lg.length ≤ 10000) (hst : stop ≤ 255) :
    Calls Ybad.prog 8 #[.int .i64 place, .pointer (some ⟨LB, 0, none⟩), .pointer (some ⟨SB, 0, none⟩)] w fun e w' => e = .returned (.bool (decide (¬ lg.length + 1 = stop))) ∧ Hid (LogAt w' LB SB Z (lg ++ [place]) stop) ∧ Hid (Held Z [LB] w w') := by
  obtain ⟨i0, hi, hz0, hz1, hz2⟩ := info_parts Ybad.info3
  obtain ⟨v, hc, ho⟩ := h.out.c
  have hz := h.out.z
  have ll := h.out.ll
  have sl := h.out.sl
  have hs := h.out.s
  go_enter Ybad.func8, Ybad.ntmps8
  go_wp2_with (first
    | (at_builtin; refine wpList_append_own _ rfl (.tmp 5) (.tmp 7) 32 rfl Z 3 i0 (.int .i64 0) 1 8 Ybad.underlying32 hi hz0 hz1 hz2 rfl (by decide) _ _ _ rfl (ho.alloc _) ⟨w.heap.size, 0, none⟩ 1 1 [.int .i64 place] rfl rfl (by intro t u ht; match t, ht with | 0, ht => simp at ht; subst ht; simp [Addr.add]) (by intro u hu; simp at hu; subst hu; rfl) (by unfold maxLen; omega) (by omega) (by simp; omega) ?_))
  intro v1 w1 hown1 hgrow1 hne1
  have hrow : ∀ k, v.ownBlock = some k → Z ≤ k := fun k hk => (ho.lt k hk).1
  have hh : Held Z [] w w1 := (((Kept.refl [] w).alloc (.cells #[.int .i64 place] 3)).held Z hZ (by simp)).grown hgrow1 (by simp; omega) (fun k hk => .inr (hrow k hk))
  have s1 : w.heap.size + 1 ≤ w1.heap.size := by simpa using hgrow1.size
  have c1 := (hh.cell LB 0 zL (by simp)).trans hc
  have z1 := (hh.frozen LB 0 zL (by simp)).trans hz
  have b1 := (hh.cell SB 0 zS (by simp)).trans hs
  have hnew : ∃ g cap, v1 = .slice (some ⟨g, 0, none⟩) (lg.length + 1) cap ∧ Z ≤ g := by
    rcases hown1.2 with ⟨e, h0⟩ | ⟨g, cap, cur, rfl, hb, _⟩
    · exact absurd h0 (by omega)
    · exact ⟨g, cap, rfl, hb⟩
  obtain ⟨g, cap, rfl, hg⟩ := hnew
  have k2 : Kept [LB] w1 (w1.setCell ⟨LB, 0, none⟩ (.slice (some ⟨g, 0, none⟩) (lg.length + 1) cap)) := (Kept.refl _ _).setCell (p := ⟨LB, 0, none⟩) (.inl (by simp)) _
  have o2 := k2.owns (g := g) (by simp; omega) hown1
  have hl2 : Hid (LogAt (w1.setCell ⟨LB, 0, none⟩ (.slice (some ⟨g, 0, none⟩) (lg.length + 1) cap)) LB SB Z (lg ++ [place]) stop) := by
    refine ⟨by simp; omega, by simp; omega, ⟨_, ?_, by simpa using o2⟩, ?_, (k2.cell SB 0 (by omega) (by simp; omega)).trans b1⟩ <;> go_simp
  have hh2 : Hid (Held Z [LB] w (w1.setCell ⟨LB, 0, none⟩ (.slice (some ⟨g, 0, none⟩) (lg.length + 1) cap))) := (hh.mono (Nat.le_refl _) (by simp)).trans (k2.held Z (by omega) (by simp))
  clear ho hc hz hs hown1 hgrow1 hne1 hrow hh o2 k2
  go_wp2
  go_ret
  refine ⟨?_, hl2, hh2⟩
  show Ending.returned (Value.bool ((lg.length : Int) + 1 != (stop : Int))) = _
  congr 2
  rw [Bool.eq_iff_iff]
  simp
  omega

def f4 (x : Int) (b : Nat) : Nat := (m4 x b).toNat
theorem m4_f4 (x : Int) (b : Nat) : m4 x b = (f4 x b : Int) := by
  obtain ⟨f, h, _⟩ := m4_nat x b
  unfold f4; rw [h]; rfl
theorem f4_lt (x : Int) (b : Nat) : f4 x b < 4294967296 := by
  obtain ⟨f, h, hl⟩ := m4_nat x b
  unfold f4; rw [h]; exact hl
theorem Held.row4 {Z : Nat} {S : List Nat} {w w' : World} {B n : Nat} {G : Nat → Int} (k : Held Z S w w') (h : Row4 w B n G) (hz : B < Z) (hs : B ∉ S) : Row4 w' B n G :=
  ⟨fun t ht => (k.cell B _ hz hs).trans (h.cell t ht), by obtain ⟨c, hc⟩ := h.tag; exact ⟨c, (k.block B hz hs).trans hc⟩⟩
/-- One level of the table. -/
structure Lev4 where
  bits : Nat
  B : Nat
  n : Nat
  c : Nat
  G : Nat → Int
  ks : List K4
structure LevAt (w : World) (VB Z LB i : Nat) (l : Lev4) : Prop where
  cb : w.cell? ⟨VB, i * 2, none⟩ = some (.int .u8 l.bits)
  cs : w.cell? ⟨VB, i * 2 + 1, none⟩ = some (.slice (some ⟨l.B, 0, none⟩) l.n l.c)
  row : Row4 w l.B l.n l.G
  ks : KS l.n l.G l.ks
  hb : l.bits ≤ 32
  hn : l.n ≤ 1024
  zB : l.B < Z
  ne : l.B ≠ LB
def LevsAt (w : World) (VB Z LB : Nat) (lv : List Lev4) : Prop := ∀ i l, lv[i]? = some l → LevAt w VB Z LB i l
theorem LevsAt.held {Z VB LB : Nat} {w w' : World} {lv : List Lev4} (h : LevsAt w VB Z LB lv) (k : Held Z [LB] w w') (zV : VB < Z) (nV : VB ≠ LB) : LevsAt w' VB Z LB lv :=
  fun i l hl => let x := h i l hl
    ⟨(k.cell VB _ zV (by simpa using nV)).trans x.cb, (k.cell VB _ zV (by simpa using nV)).trans x.cs, k.row4 x.row x.zB (by simpa using x.ne), x.ks, x.hb, x.hn, x.zB, x.ne⟩
def spot (x : Int) (l : Lev4) : Option Int := best (f4 x l.bits) l.ks
def found (x : Int) (lv : List Lev4) : List Int := lv.filterMap (spot x)
def cutL (l : List Int) (s : Nat) : List Int := if 0 < s ∧ s < l.length then l.take s else l
theorem found_take {x : Int} {lv : List Lev4} {k : Nat} {l : Lev4} (h : lv[k]? = some l) : found x (lv.take (k + 1)) = found x (lv.take k) ++ (spot x l).toList := by
  unfold found
  rw [List.take_add_one, h, List.filterMap_append]
  cases hs : spot x l <;> simp [hs]
theorem found_len (x : Int) (lv : List Lev4) (k : Nat) : (found x (lv.take k)).length ≤ k := by
  have := List.length_filterMap_le (spot x) (lv.take k)
  have h2 : (lv.take k).length ≤ k := by simp; omega
  unfold found; omega
theorem found_pre (x : Int) (lv : List Lev4) (k : Nat) : found x (lv.take k) <+: found x lv := by
  unfold found
  exact List.IsPrefix.filterMap _ (List.take_prefix k lv)
theorem cut_stop {x : Int} {lv : List Lev4} {k stop : Nat} {lg : List Int} (h : found x (lv.take k) = lg) (hs : lg.length = stop) (h0 : 0 < stop) : cutL (found x lv) stop = lg := by
  obtain ⟨r, hr⟩ := found_pre x lv k
  rw [h] at hr
  unfold cutL
  by_cases hc : 0 < stop ∧ stop < (found x lv).length
  · rw [if_pos hc, ← hr, ← hs, List.take_left']; rfl
  · rw [if_neg hc, ← hr]
    have : (found x lv).length = lg.length + r.length := by rw [← hr]; simp
    have h2 : r = [] := List.eq_nil_of_length_eq_zero (by omega)
    rw [h2]; simp
theorem cut_end {x : Int} {lv : List Lev4} {stop : Nat} {lg : List Int} (h : found x lv = lg) (hs : stop = 0 ∨ lg.length < stop) : cutL (found x lv) stop = lg := by
  unfold cutL
  rw [if_neg, h]
  rw [h]; omega

theorem enters8 (args : Array Value) (w : World) : (callFunc 8 args).run Ybad.prog w = .ok (.enter 8 args) w := enters_of Ybad.func8 (by kernel_rfl) rfl args w

set_option maxRecDepth 100000 in
set_option maxHeartbeats 3200000 in
theorem holding4 (TB VB LB SB Z stop k0 cap : Nat) (x lo : Nat) (p4 : Addr) (lv : List Lev4) (w : World) (hx : x < 4294967296) (hlo : Hid (lo = 281470681743360 + x))
    (hzs : Hid (Z4 w p4)) (htl : TB < w.heap.size) (ht : Hid (w.cell? ⟨TB, 0, none⟩ = some (.slice (some ⟨VB, 0, none⟩) k0 cap))) (hk0 : Hid (lv.length = k0)) (hkb : k0 ≤ 1000)
    (hlv : Hid (LevsAt w VB Z LB lv)) (hlog : Hid (LogAt w LB SB Z [] stop)) (hZ : Z ≤ w.heap.size) (zV : VB < Z) (zL : LB < Z) (zS : SB < Z) (nV : Hid (VB ≠ LB)) (nS : ¬ LB = SB) (hst : stop ≤ 255) :
    Calls Ybad.prog 10 #[.pointer (some ⟨TB, 0, none⟩), .agg #[.int .u64 0, .int .u64 lo, .pointer (some p4)], .func (.func 8) #[] #[.pointer (some ⟨LB, 0, none⟩), .pointer (some ⟨SB, 0, none⟩)]] w fun e w' => e = .returned (.tuple #[]) ∧ Hid (LogAt w' LB SB Z (cutL (found x lv) stop) stop) ∧ Hid (Held Z [LB] w w') := by
  have eg := enters8
  have k0' : Hid (Kept [] w (w.alloc (.cells #[.int .u64 0, .int .u64 lo, .pointer (some p4)] 48))) := (Kept.refl _ _).alloc _
  go_enter Ybad.func10, Ybad.ntmps10
  go_wp2_with fail
  refine (is4_yes _ _ p4 _ (hzs.out.kept k0'.out)).mono ?_
  rintro e w1 ⟨rfl, k1⟩
  have q0 : (w.alloc (.cells #[.int .u64 0, .int .u64 lo, .pointer (some p4)] 48)).cell? ⟨w.heap.size, 0, none⟩ = some (.int .u64 0) := by go_simp
  have q1 : (w.alloc (.cells #[.int .u64 0, .int .u64 lo, .pointer (some p4)] 48)).cell? ⟨w.heap.size, 1, none⟩ = some (.int .u64 lo) := by go_simp
  have q2 : (w.alloc (.cells #[.int .u64 0, .int .u64 lo, .pointer (some p4)] 48)).cell? ⟨w.heap.size, 2, none⟩ = some (.pointer (some p4)) := by go_simp
  have r0 := (k1.out.cell w.heap.size 0 (by simp) (by simp)).trans q0
  have r1 := (k1.out.cell w.heap.size 1 (by simp) (by simp)).trans q1
  have r2 := (k1.out.cell w.heap.size 2 (by simp) (by simp)).trans q2
  have kk1 : Hid (Kept [] w w1) := k0'.out.trans k1.out
  clear k0' k1 q0 q1 q2
  go_wp2_with fail
  refine (as4 x lo p4 w1 hx hlo (hzs.out.kept kk1.out)).mono ?_
  rintro e wa ⟨rfl, ka⟩
  have kka : Hid (Kept [] w wa) := kk1.out.trans ka.out
  clear r0 r1 r2 kk1 ka
  go_wp2_with fail
  obtain ⟨V0, hV0⟩ : ∃ V0, Hid (wa.alloc (.cells (bytes4 x) 50) = V0) := ⟨_, rfl⟩
  have kV : Hid (Kept [] w V0) := by show Kept [] w V0; rw [← hV0.out]; exact kka.out.alloc _
  have b0 : Hid (V0.drew.cell? ⟨wa.heap.size, 0, none⟩ = some (.int .u8 ((x : Int) / 16777216))) := by show V0.drew.cell? _ = _; rw [← hV0.out]; go_simp
  have b1 : Hid (V0.drew.cell? ⟨wa.heap.size, 1, none⟩ = some (.int .u8 ((x : Int) / 65536 % 256))) := by show V0.drew.cell? _ = _; rw [← hV0.out]; go_simp
  have b2 : Hid (V0.drew.cell? ⟨wa.heap.size, 2, none⟩ = some (.int .u8 ((x : Int) / 256 % 256))) := by show V0.drew.cell? _ = _; rw [← hV0.out]; go_simp
  have b3 : Hid (V0.drew.cell? ⟨wa.heap.size, 3, none⟩ = some (.int .u8 ((x : Int) % 256))) := by show V0.drew.cell? _ = _; rw [← hV0.out]; go_simp
  rw [hV0.out]
  clear hV0 kka
  go_region_held3 (fun _ => True) (exact trivial)
    (first
    | (go_at_call 25; refine (be25 _ x V0.drew hx b0.out b1.out b2.out b3.out).mono ?_; rintro e w2 ⟨rfl, k2⟩))
  have kk2 : Hid (Kept [] w w2) := (kV.out.drew).trans k2.out
  clear kV k2 b0 b1 b2 b3
  have tc := (kk2.out.cell TB 0 htl (by simp)).trans ht.out
  have hs2 : w.heap.size ≤ w2.heap.size := kk2.out.size
  go_wp2
  clear tc
  have hh0 : Hid (Held Z [LB] w w2) := kk2.out.held Z hZ (by simp)
  have hlog2 : Hid (LogAt w2 LB SB Z [] stop) := hlog.out.kept kk2.out
  go_loopw [30] (fun i wr => ∃ (k : Nat) (lg : List Int), k ≤ k0 ∧ i = .int .i64 k ∧ Hid (found x (lv.take k) = lg) ∧ Hid (stop = 0 ∨ lg.length < stop) ∧ Hid (LogAt wr LB SB Z lg stop) ∧ Hid (Held Z [LB] w wr)) (fun i _ => k0 - (intOf i).toNat)
  case atStart => exact ⟨0, [], Nat.zero_le _, rfl, rfl, by show stop = 0 ∨ 0 < stop; omega, hlog2, hh0⟩
  case round =>
    clear hh0 hlog2 kk2 hs2
    obtain ⟨k, lg, hk, rfl, hfd, hsl, hlog, hh⟩ := hrel
    by_cases hlt : k < k0
    · obtain ⟨l, hl⟩ : ∃ l, Hid (lv[k]? = some l) := ⟨lv[k]'(by rw [hk0.out]; exact hlt), List.getElem?_eq_getElem _⟩
      have hla : Hid (LevAt wr VB Z LB k l) := (hlv.out.held hh.out zV nV.out) k l hl.out
      have hft := found_take (x := x) hl.out
      have cb := hla.out.cb
      have cs := hla.out.cs
      obtain ⟨bits, B, n, c, G, ks⟩ := l
      simp only at cb cs
      have hbits : bits ≤ 32 := hla.out.hb
      have hn : n ≤ 1024 := hla.out.hn
      obtain ⟨W0, hW0⟩ : ∃ W0, Hid (wr.alloc (.cells #[.int .u8 bits, .slice (some ⟨B, 0, none⟩) n c] 39) = W0) := ⟨_, rfl⟩
      have kW : Hid (Kept [] wr W0) := by show Kept [] wr W0; rw [← hW0.out]; exact (Kept.refl _ _).alloc _
      have e0 : W0.cell? ⟨wr.heap.size, 0, none⟩ = some (.int .u8 bits) := by rw [← hW0.out]; go_simp
      have e1 : W0.cell? ⟨wr.heap.size, 1, none⟩ = some (.slice (some ⟨B, 0, none⟩) n c) := by rw [← hW0.out]; go_simp
      have l0 : wr.heap.size < W0.heap.size := by rw [← hW0.out]; simp
      have row : Hid (Row4 W0 B n G) := hla.out.row.kept kW.out (by simp)
      have rowd : ∀ k, Hid (Row4 (W0.drewN k) B n G) := fun k => row.out.kept ((Kept.refl [] W0).drewN k) (by simp)
      have hks : Hid (KS n G ks) := hla.out.ks
      have hfl : f4 x bits < 4294967296 := f4_lt _ _
      have HFT : Hid _ := hft
      clear hft
      have hlg : lg.length ≤ k := by rw [← hfd.out]; exact found_len _ _ _
      cases hlk : best (f4 x bits) ks with
      | none =>
        have HL : Hid _ := hlk
        clear hlk
        have hnx : Hid (found x (lv.take (k + 1)) = lg) := by
          show found x (lv.take (k + 1)) = _
          rw [HFT.out]; unfold spot; simp only; rw [HL.out, hfd.out]; simp
        go_wp2_with fail
        rw [hW0.out]
        go_region_held3 (fun W => W.cell? ⟨wr.heap.size, 0, none⟩ = some (.int .u8 bits) ∧ W.cell? ⟨wr.heap.size, 1, none⟩ = some (.slice (some ⟨B, 0, none⟩) n c)) (first | (simp [go_sem, e0, e1]; done) | (have hq := kf.out; refine ⟨?_, ?_⟩ <;> (rw [hq.cell _ _ (by show _ < W0.heap.size; omega) (by simp)]; assumption)))
          (first
          | (go_at_call 27; refine (first4_any x bits _ hbits).mono ?_; rw [m4_f4]; rintro e w' ⟨rfl, rfl⟩)
          | (go_at_call 26; refine (find4_none B c n _ bits G ks _ (rowd 1) hks hfl (by omega) HL).mono ?_; rintro e wf ⟨rfl, kf⟩))
        have kk : Hid (Kept [] wr wf) := kW.out.trans (((Kept.refl _ W0).drewN 1).trans kf.out)
        have hh2 : Hid (Held Z [LB] w wf) := hh.out.trans (kk.out.held Z (Nat.le_trans hZ hh.out.size) (by simp))
        have hlog2 : Hid (LogAt wf LB SB Z lg stop) := hlog.out.kept kk.out
        clear kf e0 e1
        go_wp2
        go_roundw
        case rel => exact ⟨k + 1, lg, hlt, by go_num, hnx.out, hsl.out, hlog2.out, hh2.out⟩
        case measure => simp [intOf]; omega
      | some p =>
        have HL : Hid _ := hlk
        clear hlk
        have hnx : Hid (found x (lv.take (k + 1)) = lg ++ [p]) := by
          show found x (lv.take (k + 1)) = _
          rw [HFT.out]; unfold spot; simp only; rw [HL.out, hfd.out]; simp
        go_wp2_with fail
        rw [hW0.out]
        go_region_held3 (fun W => W.cell? ⟨wr.heap.size, 0, none⟩ = some (.int .u8 bits) ∧ W.cell? ⟨wr.heap.size, 1, none⟩ = some (.slice (some ⟨B, 0, none⟩) n c)) (first | (simp [go_sem, e0, e1]; done) | (have hq := kf.out; refine ⟨?_, ?_⟩ <;> (rw [hq.cell _ _ (by show _ < W0.heap.size; omega) (by simp)]; assumption)))
          (first
          | (go_at_call 27; refine (first4_any x bits _ hbits).mono ?_; rw [m4_f4]; rintro e w' ⟨rfl, rfl⟩)
          | (go_at_call 26; refine (find4_some B c n _ bits G ks p _ (rowd 1) hks hfl (by omega) HL).mono ?_; rintro e wf ⟨rfl, kf⟩))
        have kk : Hid (Kept [] wr wf) := kW.out.trans (((Kept.refl _ W0).drewN 1).trans kf.out)
        have hh2 : Hid (Held Z [LB] w wf) := hh.out.trans (kk.out.held Z (Nat.le_trans hZ hh.out.size) (by simp))
        have hlog2 : Hid (LogAt wf LB SB Z lg stop) := hlog.out.kept kk.out
        have hZf : Z ≤ wf.heap.size := Nat.le_trans hZ hh2.out.size
        clear kf e0 e1 kk
        go_wp2_with fail
        refine (visit8 LB SB Z stop lg p wf hlog2 hZf zL zS nS (by omega) hst).mono ?_
        rintro e wv ⟨rfl, hlog3, hh3⟩
        have hh4 : Hid (Held Z [LB] w wv) := hh2.out.trans hh3.out
        clear hlog2 hh2 hh3
        by_cases hstop : lg.length + 1 = stop
        · rw [show decide (¬ lg.length + 1 = stop) = false from by simp [hstop]]
          go_wp2
          refine ⟨rfl, .tuple #[], by simp [results, Ybad.results10, go_sem], rfl, ?_, hh4⟩
          rw [cut_stop hnx.out (by simpa using hstop) (by omega)]
          exact hlog3.out
        · rw [show decide (¬ lg.length + 1 = stop) = true from by simp [hstop]]
          go_wp2
          go_roundw
          case rel => exact ⟨k + 1, lg ++ [p], hlt, by go_num, hnx.out, by have := hsl.out; show stop = 0 ∨ _; simp; omega, hlog3.out, hh4.out⟩
          case measure => simp [intOf]; omega
    · obtain rfl : k = k0 := by omega
      go_wp2
      (try simp only [Exit.inBlock, Exit.then]); refine bodyPost_ret (results_none rfl _ _ _) rfl ?_
      refine ⟨rfl, ?_, hh⟩
      have e : found x lv = lg := by have := hfd.out; rwa [List.take_of_length_le (by rw [hk0.out]; exact Nat.le_refl _)] at this
      rw [cut_end e hsl.out]
      exact hlog.out
set_option maxRecDepth 100000 in
set_option maxHeartbeats 3200000 in
theorem holding4_nil (TB LB SB Z stop : Nat) (x lo : Nat) (p4 : Addr) (w : World) (hx : x < 4294967296) (hlo : Hid (lo = 281470681743360 + x))
    (hzs : Hid (Z4 w p4)) (htl : TB < w.heap.size) (ht : Hid (w.cell? ⟨TB, 0, none⟩ = some (.slice none 0 0)))
    (hlog : Hid (LogAt w LB SB Z [] stop)) (hZ : Z ≤ w.heap.size) :
    Calls Ybad.prog 10 #[.pointer (some ⟨TB, 0, none⟩), .agg #[.int .u64 0, .int .u64 lo, .pointer (some p4)], .func (.func 8) #[] #[.pointer (some ⟨LB, 0, none⟩), .pointer (some ⟨SB, 0, none⟩)]] w fun e w' => e = .returned (.tuple #[]) ∧ Hid (LogAt w' LB SB Z [] stop) ∧ Hid (Held Z [LB] w w') := by
  have k0' : Hid (Kept [] w (w.alloc (.cells #[.int .u64 0, .int .u64 lo, .pointer (some p4)] 48))) := (Kept.refl _ _).alloc _
  go_enter Ybad.func10, Ybad.ntmps10
  go_wp2_with fail
  refine (is4_yes _ _ p4 _ (hzs.out.kept k0'.out)).mono ?_
  rintro e w1 ⟨rfl, k1⟩
  have q0 : (w.alloc (.cells #[.int .u64 0, .int .u64 lo, .pointer (some p4)] 48)).cell? ⟨w.heap.size, 0, none⟩ = some (.int .u64 0) := by go_simp
  have q1 : (w.alloc (.cells #[.int .u64 0, .int .u64 lo, .pointer (some p4)] 48)).cell? ⟨w.heap.size, 1, none⟩ = some (.int .u64 lo) := by go_simp
  have q2 : (w.alloc (.cells #[.int .u64 0, .int .u64 lo, .pointer (some p4)] 48)).cell? ⟨w.heap.size, 2, none⟩ = some (.pointer (some p4)) := by go_simp
  have r0 := (k1.out.cell w.heap.size 0 (by simp) (by simp)).trans q0
  have r1 := (k1.out.cell w.heap.size 1 (by simp) (by simp)).trans q1
  have r2 := (k1.out.cell w.heap.size 2 (by simp) (by simp)).trans q2
  have kk1 : Hid (Kept [] w w1) := k0'.out.trans k1.out
  clear k0' k1 q0 q1 q2
  go_wp2_with fail
  refine (as4 x lo p4 w1 hx hlo (hzs.out.kept kk1.out)).mono ?_
  rintro e wa ⟨rfl, ka⟩
  have kka : Hid (Kept [] w wa) := kk1.out.trans ka.out
  clear r0 r1 r2 kk1 ka
  go_wp2_with fail
  obtain ⟨V0, hV0⟩ : ∃ V0, Hid (wa.alloc (.cells (bytes4 x) 50) = V0) := ⟨_, rfl⟩
  have kV : Hid (Kept [] w V0) := by show Kept [] w V0; rw [← hV0.out]; exact kka.out.alloc _
  have b0 : Hid (V0.drew.cell? ⟨wa.heap.size, 0, none⟩ = some (.int .u8 ((x : Int) / 16777216))) := by show V0.drew.cell? _ = _; rw [← hV0.out]; go_simp
  have b1 : Hid (V0.drew.cell? ⟨wa.heap.size, 1, none⟩ = some (.int .u8 ((x : Int) / 65536 % 256))) := by show V0.drew.cell? _ = _; rw [← hV0.out]; go_simp
  have b2 : Hid (V0.drew.cell? ⟨wa.heap.size, 2, none⟩ = some (.int .u8 ((x : Int) / 256 % 256))) := by show V0.drew.cell? _ = _; rw [← hV0.out]; go_simp
  have b3 : Hid (V0.drew.cell? ⟨wa.heap.size, 3, none⟩ = some (.int .u8 ((x : Int) % 256))) := by show V0.drew.cell? _ = _; rw [← hV0.out]; go_simp
  rw [hV0.out]
  clear hV0 kka
  go_region_held3 (fun _ => True) (exact trivial)
    (first
    | (go_at_call 25; refine (be25 _ x V0.drew hx b0.out b1.out b2.out b3.out).mono ?_; rintro e w2 ⟨rfl, k2⟩))
  have kk2 : Hid (Kept [] w w2) := (kV.out.drew).trans k2.out
  clear kV k2 b0 b1 b2 b3
  have tc := (kk2.out.cell TB 0 htl (by simp)).trans ht.out
  go_wp2
  clear tc
  have hh0 : Hid (Held Z [LB] w w2) := kk2.out.held Z hZ (by simp)
  have hlog2 : Hid (LogAt w2 LB SB Z [] stop) := hlog.out.kept kk2.out
  go_loopw [30] (fun i wr => i = .int .i64 0 ∧ wr = w2) (fun i _ => 0)
  case atStart => exact ⟨rfl, rfl⟩
  case round =>
    obtain ⟨rfl, rfl⟩ := hrel
    go_wp2
    (try simp only [Exit.inBlock, Exit.then]); refine bodyPost_ret (results_none rfl _ _ _) rfl ?_
    exact ⟨rfl, hlog2, hh0⟩
end Go.Proofs.YbulkbnryDoor
