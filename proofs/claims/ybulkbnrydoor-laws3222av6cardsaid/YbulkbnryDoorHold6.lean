import Derived.Test.YbulkbnryDoorVisit
import Derived.Test.YbulkbnryDoorLook6
import Derived.Test.YbulkbnryDoorHalves
namespace Go.Proofs.YbulkbnryDoor
open Go.RowKit Go.Sort
set_option linter.unusedSimpArgs false
set_option linter.unusedVariables false

theorem Held.row6 {Z : Nat} {S : List Nat} {w w' : World} {B : Nat} {ns : List Net} (k : Held Z S w w') (h : Row6 w B ns) (hz : B < Z) (hs : B ∉ S) : Row6 w' B ns := by
  refine ⟨Nat.lt_of_lt_of_le h.lt k.size, ?_, by obtain ⟨c, hc⟩ := h.tag; exact ⟨c, (k.block B hz hs).trans hc⟩⟩
  intro i hi
  have := h.holds i hi
  have e1 : w'.cell? ⟨B, 0 + i, none⟩ = w.cell? ⟨B, 0 + i, none⟩ := k.cell B _ hz hs
  have e2 : w'.frozen? ⟨B, 0 + i, none⟩ = w.frozen? ⟨B, 0 + i, none⟩ := k.frozen B _ hz hs
  rw [e1, e2]; exact this

/-- One level of the table. -/
structure Lev where
  bits : Nat
  B : Nat
  n : Nat
  c : Nat
  ns : List Net
structure LevAt (w : World) (VB Z LB i : Nat) (l : Lev) : Prop where
  cb : w.cell? ⟨VB, i * 2, none⟩ = some (.int .u8 l.bits)
  cs : w.cell? ⟨VB, i * 2 + 1, none⟩ = some (.slice (some ⟨l.B, 0, none⟩) l.n l.c)
  row : Row6 w l.B l.ns
  len : l.ns.length = l.n
  asc : Asc l.ns
  hb : l.bits ≤ 128
  hn : l.n ≤ 1024
  zB : l.B < Z
  ne : l.B ≠ LB
def LevsAt (w : World) (VB Z LB : Nat) (lv : List Lev) : Prop := ∀ i l, lv[i]? = some l → LevAt w VB Z LB i l
theorem LevsAt.held {Z VB LB : Nat} {w w' : World} {lv : List Lev} (h : LevsAt w VB Z LB lv) (k : Held Z [LB] w w') (zV : VB < Z) (nV : VB ≠ LB) : LevsAt w' VB Z LB lv :=
  fun i l hl => let x := h i l hl
    ⟨(k.cell VB _ zV (by simpa using nV)).trans x.cb, (k.cell VB _ zV (by simpa using nV)).trans x.cs, k.row6 x.row x.zB (by simpa using x.ne), x.len, x.asc, x.hb, x.hn, x.zB, x.ne⟩
def spot (x y : Int) (l : Lev) : Option Int := (lookup l.ns (m6 x y l.bits).1 (m6 x y l.bits).2).map (·.place)
def found (x y : Int) (lv : List Lev) : List Int := lv.filterMap (spot x y)
def cutL (l : List Int) (s : Nat) : List Int := if 0 < s ∧ s < l.length then l.take s else l
theorem found_take {x y : Int} {lv : List Lev} {k : Nat} {l : Lev} (h : lv[k]? = some l) : found x y (lv.take (k + 1)) = found x y (lv.take k) ++ (spot x y l).toList := by
  unfold found
  rw [List.take_add_one, h, List.filterMap_append]
  cases hs : spot x y l <;> simp [hs]
theorem found_len (x y : Int) (lv : List Lev) (k : Nat) : (found x y (lv.take k)).length ≤ k := by
  have := List.length_filterMap_le (spot x y) (lv.take k)
  have h2 : (lv.take k).length ≤ k := by simp; omega
  unfold found; omega
theorem found_pre (x y : Int) (lv : List Lev) (k : Nat) : found x y (lv.take k) <+: found x y lv := by
  unfold found
  exact List.IsPrefix.filterMap _ (List.take_prefix k lv)
theorem cut_stop {x y : Int} {lv : List Lev} {k stop : Nat} {lg : List Int} (h : found x y (lv.take k) = lg) (hs : lg.length = stop) (h0 : 0 < stop) : cutL (found x y lv) stop = lg := by
  obtain ⟨r, hr⟩ := found_pre x y lv k
  rw [h] at hr
  unfold cutL
  by_cases hc : 0 < stop ∧ stop < (found x y lv).length
  · rw [if_pos hc, ← hr, ← hs, List.take_left']; rfl
  · rw [if_neg hc, ← hr]
    have : (found x y lv).length = lg.length + r.length := by rw [← hr]; simp
    have h2 : r = [] := List.eq_nil_of_length_eq_zero (by omega)
    rw [h2]; simp
theorem cut_end {x y : Int} {lv : List Lev} {stop : Nat} {lg : List Int} (h : found x y lv = lg) (hs : stop = 0 ∨ lg.length < stop) : cutL (found x y lv) stop = lg := by
  unfold cutL
  rw [if_neg, h]
  rw [h]; omega

theorem enters18 (args : Array Value) (w : World) : (callFunc 18 args).run Ybad.prog w = .ok (.enter 18 args) w := enters_of Ybad.func18 (by kernel_rfl) rfl args w

set_option maxRecDepth 100000 in
set_option maxHeartbeats 3200000 in
theorem holding6 (TB VB LB SB Z stop k0 cap : Nat) (x y : Nat) (p4 p6 : Addr) (v4 : Value) (lv : List Lev) (w : World) (hx : x < 18446744073709551616) (hy : y < 18446744073709551616)
    (hzs : Hid (Zs w p4 p6)) (htl : TB < w.heap.size) (ht : Hid (w.cell? ⟨TB, 1, none⟩ = some (.slice (some ⟨VB, 0, none⟩) k0 cap))) (hk0 : Hid (lv.length = k0)) (hkb : k0 ≤ 1000)
    (hlv : Hid (LevsAt w VB Z LB lv)) (hlog : Hid (LogAt w LB SB Z [] stop)) (hZ : Z ≤ w.heap.size) (zV : VB < Z) (zL : LB < Z) (zS : SB < Z) (nV : Hid (VB ≠ LB)) (nS : ¬ LB = SB) (hst : stop ≤ 255) :
    Calls Ybad.prog 10 #[.pointer (some ⟨TB, 0, none⟩), .agg #[.int .u64 x, .int .u64 y, .pointer (some p6)], .func (.func 18) #[] #[.pointer (some ⟨LB, 0, none⟩), .pointer (some ⟨SB, 0, none⟩)]] w fun e w' => e = .returned (.tuple #[]) ∧ Hid (LogAt w' LB SB Z (cutL (found x y lv) stop) stop) ∧ Hid (Held Z [LB] w w') := by
  have eg := enters18
  have k0' : Hid (Kept [] w (w.alloc (.cells #[.int .u64 x, .int .u64 y, .pointer (some p6)] 48))) := (Kept.refl _ _).alloc _
  go_enter Ybad.func10, Ybad.ntmps10
  go_wp2_with fail
  refine (is4_not _ _ p4 p6 _ (hzs.out.kept k0'.out)).mono ?_
  rintro e w1 ⟨rfl, k1⟩
  have q0 : (w.alloc (.cells #[.int .u64 x, .int .u64 y, .pointer (some p6)] 48)).cell? ⟨w.heap.size, 0, none⟩ = some (.int .u64 x) := by go_simp
  have q1 : (w.alloc (.cells #[.int .u64 x, .int .u64 y, .pointer (some p6)] 48)).cell? ⟨w.heap.size, 1, none⟩ = some (.int .u64 y) := by go_simp
  have q2 : (w.alloc (.cells #[.int .u64 x, .int .u64 y, .pointer (some p6)] 48)).cell? ⟨w.heap.size, 2, none⟩ = some (.pointer (some p6)) := by go_simp
  have r0 := (k1.out.cell w.heap.size 0 (by simp) (by simp)).trans q0
  have r1 := (k1.out.cell w.heap.size 1 (by simp) (by simp)).trans q1
  have r2 := (k1.out.cell w.heap.size 2 (by simp) (by simp)).trans q2
  have kk1 : Hid (Kept [] w w1) := k0'.out.trans k1.out
  clear k0' k1 q0 q1 q2
  go_wp2_with fail
  refine (halves_any x y _ w1 hx hy).mono ?_
  rintro e w2 ⟨rfl, k2⟩
  have kk2 : Hid (Kept [] w w2) := kk1.out.trans k2.out
  have tc := (kk2.out.cell TB 1 htl (by simp)).trans ht.out
  have hs2 : w.heap.size ≤ w2.heap.size := kk2.out.size
  clear r0 r1 r2 kk1 k2
  go_wp2
  clear tc
  have hh0 : Hid (Held Z [LB] w w2) := kk2.out.held Z hZ (by simp)
  have hlog2 : Hid (LogAt w2 LB SB Z [] stop) := hlog.out.kept kk2.out
  go_loopw [61] (fun i wr => ∃ (k : Nat) (lg : List Int), k ≤ k0 ∧ i = .int .i64 k ∧ Hid (found x y (lv.take k) = lg) ∧ Hid (stop = 0 ∨ lg.length < stop) ∧ Hid (LogAt wr LB SB Z lg stop) ∧ Hid (Held Z [LB] w wr)) (fun i _ => k0 - (intOf i).toNat)
  case atStart => exact ⟨0, [], Nat.zero_le _, rfl, rfl, by show stop = 0 ∨ 0 < stop; omega, hlog2, hh0⟩
  case round =>
    clear hh0 hlog2 kk2 hs2
    obtain ⟨k, lg, hk, rfl, hfd, hsl, hlog, hh⟩ := hrel
    by_cases hlt : k < k0
    · obtain ⟨l, hl⟩ : ∃ l, Hid (lv[k]? = some l) := ⟨lv[k]'(by rw [hk0.out]; exact hlt), List.getElem?_eq_getElem _⟩
      have hla : Hid (LevAt wr VB Z LB k l) := (hlv.out.held hh.out zV nV.out) k l hl.out
      have hft := found_take (x := x) (y := y) hl.out
      have cb := hla.out.cb
      have cs := hla.out.cs
      obtain ⟨bits, B, n, c, ns⟩ := l
      simp only at cb cs
      have hbits : bits ≤ 128 := hla.out.hb
      have hn : n ≤ 1024 := hla.out.hn
      obtain ⟨W0, hW0⟩ : ∃ W0, Hid (wr.alloc (.cells #[.int .u8 bits, .slice (some ⟨B, 0, none⟩) n c] 68) = W0) := ⟨_, rfl⟩
      have kW : Hid (Kept [] wr W0) := by show Kept [] wr W0; rw [← hW0.out]; exact (Kept.refl _ _).alloc _
      have e0 : W0.cell? ⟨wr.heap.size, 0, none⟩ = some (.int .u8 bits) := by rw [← hW0.out]; go_simp
      have e1 : W0.cell? ⟨wr.heap.size, 1, none⟩ = some (.slice (some ⟨B, 0, none⟩) n c) := by rw [← hW0.out]; go_simp
      have l0 : wr.heap.size < W0.heap.size := by rw [← hW0.out]; simp
      have row : Hid (Row6 W0 B ns) := hla.out.row.kept kW.out (by simp)
      have rowd : ∀ k, Hid (Row6 (W0.drewN k) B ns) := fun k => row.out.kept ((Kept.refl [] W0).drewN k) (by simp)
      have hlen : Hid (ns.length = n) := hla.out.len
      have hasc : Hid (Asc ns) := hla.out.asc
      have HFT : Hid _ := hft
      clear hft
      have hlg : lg.length ≤ k := by rw [← hfd.out]; exact found_len _ _ _ _
      cases hlk : lookup ns (m6 x y bits).1 (m6 x y bits).2 with
      | none =>
        have HL : Hid _ := hlk
        clear hlk
        have hnx : Hid (found x y (lv.take (k + 1)) = lg) := by
          show found x y (lv.take (k + 1)) = lg
          rw [HFT.out]; unfold spot; simp only; rw [HL.out, hfd.out]; simp
        go_wp2_with fail
        rw [hW0.out]
        go_region_held3 (fun W => W.cell? ⟨wr.heap.size, 0, none⟩ = some (.int .u8 bits) ∧ W.cell? ⟨wr.heap.size, 1, none⟩ = some (.slice (some ⟨B, 0, none⟩) n c)) (first | (simp [go_sem, e0, e1]; done) | (have hq := kf.out; refine ⟨?_, ?_⟩ <;> (rw [hq.cell _ _ (by show _ < W0.heap.size; omega) (by simp)]; assumption)))
          (first
          | (go_at_call 30; refine (first6_any x y bits _ hbits).mono ?_; rintro e w' ⟨rfl, rfl⟩)
          | (go_at_call 29; refine (find6_none B c n bits ns _ _ _ (rowd 1) hlen (by omega) hasc HL).mono ?_; rintro e wf ⟨rfl, kf⟩))
        have kk : Hid (Kept [] wr wf) := kW.out.trans (((Kept.refl _ W0).drewN 1).trans kf.out)
        have hh2 : Hid (Held Z [LB] w wf) := hh.out.trans (kk.out.held Z (Nat.le_trans hZ hh.out.size) (by simp))
        have hlog2 : Hid _ := hlog.out.kept kk.out
        clear kf e0 e1
        go_wp2
        go_roundw
        case rel => exact ⟨k + 1, lg, hlt, by go_num, hnx.out, hsl.out, hlog2.out, hh2.out⟩
        case measure => simp [intOf]; omega
      | some net =>
        have HL : Hid _ := hlk
        clear hlk
        have hnx : Hid (found x y (lv.take (k + 1)) = lg ++ [net.place]) := by
          show found x y (lv.take (k + 1)) = _
          rw [HFT.out]; unfold spot; simp only; rw [HL.out, hfd.out]; simp
        go_wp2_with fail
        rw [hW0.out]
        go_region_held3 (fun W => W.cell? ⟨wr.heap.size, 0, none⟩ = some (.int .u8 bits) ∧ W.cell? ⟨wr.heap.size, 1, none⟩ = some (.slice (some ⟨B, 0, none⟩) n c)) (first | (simp [go_sem, e0, e1]; done) | (have hq := kf.out; refine ⟨?_, ?_⟩ <;> (rw [hq.cell _ _ (by show _ < W0.heap.size; omega) (by simp)]; assumption)))
          (first
          | (go_at_call 30; refine (first6_any x y bits _ hbits).mono ?_; rintro e w' ⟨rfl, rfl⟩)
          | (go_at_call 29; refine (find6_some B c n bits ns _ _ net _ (rowd 1) hlen (by omega) hasc HL).mono ?_; rintro e wf ⟨rfl, kf⟩))
        have kk : Hid (Kept [] wr wf) := kW.out.trans (((Kept.refl _ W0).drewN 1).trans kf.out)
        have hh2 : Hid (Held Z [LB] w wf) := hh.out.trans (kk.out.held Z (Nat.le_trans hZ hh.out.size) (by simp))
        have hlog2 : Hid (LogAt wf LB SB Z lg stop) := hlog.out.kept kk.out
        have hZf : Z ≤ wf.heap.size := Nat.le_trans hZ hh2.out.size
        clear kf e0 e1 kk
        go_wp2_with fail
        refine (visit_any LB SB Z stop lg net.place wf hlog2 hZf zL zS nS (by omega) hst).mono ?_
        rintro e wv ⟨rfl, hlog3, hh3⟩
        have hh4 : Hid (Held Z [LB] w wv) := hh2.out.trans hh3.out
        clear hlog2 hh2 hh3
        by_cases hstop : lg.length + 1 = stop
        · rw [show decide (¬ lg.length + 1 = stop) = false from by simp [hstop]]
          go_wp2
          refine ⟨rfl, .tuple #[], by simp [results, Ybad.results10, go_sem], rfl, ?_, hh4⟩
          rw [cut_stop hnx.out (by simpa using hstop) (by omega)]
          exact hlog3.out
        · rw [show decide (¬ lg.length + 1 = stop) = true from by simp [hstop]]
          go_wp2
          go_roundw
          case rel => exact ⟨k + 1, lg ++ [net.place], hlt, by go_num, hnx.out, by have := hsl.out; show stop = 0 ∨ _; simp; omega, hlog3.out, hh4.out⟩
          case measure => simp [intOf]; omega
    · obtain rfl : k = k0 := by omega
      go_wp2
      go_end0
      refine ⟨rfl, ?_, hh⟩
      have e : found x y lv = lg := by have := hfd.out; rwa [List.take_of_length_le (by rw [hk0.out]; exact Nat.le_refl _)] at this
      rw [cut_end e hsl.out]
      exact hlog.out
end Go.Proofs.YbulkbnryDoor
