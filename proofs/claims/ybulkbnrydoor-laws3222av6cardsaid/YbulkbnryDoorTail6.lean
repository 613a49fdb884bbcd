import Derived.Test.YbulkbnryDoorState
import Derived.Test.YbulkbnryDoorShelf
import Derived.Test.YbulkbnryDoorAs16
namespace Go.Proofs.YbulkbnryDoor
open Go.RowKit
set_option linter.unusedSimpArgs false
set_option linter.unusedVariables false

def reslice : Value → Nat → Value
  | .slice a _ c, m => .slice a m c
  | v, _ => v
def cutN (n s : Nat) : Nat := if 0 < s ∧ s < n then s else n
theorem cutN_le (n s : Nat) : cutN n s ≤ n := by unfold cutN; split <;> omega
theorem cutL_take (l : List Int) (s : Nat) : cutL l s = l.take (cutN l.length s) := by
  unfold cutL cutN; split
  · rfl
  · simp
set_option maxHeartbeats 800000 in
theorem cut_any (v : Value) (n base : Nat) (xs : List Value) (stop : Nat) (w : World) (h : w.ownsRow base 3 1 v n xs) (hn : n ≤ 100000) (hst : stop ≤ 255) :
    Calls Ybad.prog 7 #[v, .int .u8 stop] w fun e w' => e = .returned (reslice v (cutN n stop)) ∧ w' = w := by
  by_cases hc : 0 < stop ∧ stop < n
  · rcases h.2 with ⟨rfl, h0⟩ | ⟨g, cap, cur, rfl, hb, hcur, hcap, hmx, _⟩
    · omega
    · have h1 := hc.1
      have h2 := hc.2
      have e : cutN n stop = stop := by unfold cutN; rw [if_pos hc]
      rw [e]
      have hm2 : cap ≤ 9223372036854775807 := hmx
      clear hcur
      go_enter Ybad.func7, Ybad.ntmps7
      go_wp2
      go_ret
      exact ⟨rfl, rfl⟩
  · have e : cutN n stop = n := by unfold cutN; rw [if_neg hc]
    rw [e]
    have e2 : reslice v n = v := by
      rcases h.2 with ⟨rfl, rfl⟩ | ⟨g, cap, cur, rfl, _⟩ <;> rfl
    rw [e2]
    obtain ⟨a, c, rfl⟩ : ∃ a c, v = .slice a n c := by
      rcases h.2 with ⟨rfl, rfl⟩ | ⟨g, cap, cur, rfl, _⟩
      · exact ⟨_, _, rfl⟩
      · exact ⟨_, _, rfl⟩
    clear h
    by_cases h1 : 0 < stop
    · have h2 : ¬ stop < n := fun h => hc ⟨h1, h⟩
      go_enter Ybad.func7, Ybad.ntmps7
      go_wp2
      go_ret
      exact ⟨rfl, rfl⟩
    · obtain rfl : stop = 0 := by omega
      go_enter Ybad.func7, Ybad.ntmps7
      go_wp2
      go_ret
      exact ⟨rfl, rfl⟩

theorem equal_same (B1 B2 : Nat) (v1 v2 : Value) (l wl : List Int) (m : Nat) (w : World) (h1 : w.ownsRow B1 3 1 v1 l.length (l.map (Value.int .i64))) (h2 : w.ownsRow B2 3 1 v2 wl.length (wl.map (Value.int .i64))) (hm : m ≤ wl.length) (hl : l = wl.take m) (hb : wl.length ≤ 100000) :
    Calls Ybad.prog 11 #[v1, reslice v2 m] w fun e w' => e = .returned (.bool true) ∧ ∃ q, w' = w.drewN q := by
  have hlen : l.length = m := by rw [hl]; simp; omega
  by_cases h0 : m = 0
  · subst h0
    obtain ⟨a1, c1, rfl⟩ : ∃ a c, v1 = .slice a 0 c := by
      rcases h1.2 with ⟨rfl, e⟩ | ⟨g, cap, cur, rfl, _⟩
      · exact ⟨_, _, rfl⟩
      · rw [hlen]; exact ⟨_, _, rfl⟩
    obtain ⟨a2, c2, e2⟩ : ∃ a c, reslice v2 0 = .slice a 0 c := by
      rcases h2.2 with ⟨rfl, e⟩ | ⟨g, cap, cur, rfl, _⟩
      · exact ⟨_, _, rfl⟩
      · exact ⟨_, _, rfl⟩
    rw [e2]
    exact (Ybad.slices_Equal_int_empty a1 a2 c1 0 c2 w (by omega)).mono fun e w' ⟨he, hw⟩ => ⟨by rw [he]; rfl, 0, by rw [hw]; rfl⟩
  · rcases h1.2 with ⟨rfl, e⟩ | ⟨g, cap, cur, rfl, hb1, _⟩
    · omega
    · rcases h2.2 with ⟨rfl, e⟩ | ⟨g2, cap2, cur2, rfl, hb2, _⟩
      · omega
      · have hc1 : ∀ j, j < l.length → w.cell? ⟨g, 0 + j, none⟩ = some (.int .i64 (l.getD j 0)) := by
          intro j hj
          rw [Nat.zero_add, h1.cellAt j (by omega)]
          simp [List.getD, hj]
        have hc2 : ∀ j, j < wl.length → w.cell? ⟨g2, 0 + j, none⟩ = some (.int .i64 (wl.getD j 0)) := by
          intro j hj
          rw [Nat.zero_add, h2.cellAt j (by omega)]
          simp [List.getD, hj]
        have := Ybad.slices_Equal_int g 0 l.length cap g2 0 m cap2 l wl w (Nat.le_refl _) hm (by omega) (by omega) hc1 hc2
        refine this.mono fun e w' ⟨he, hw⟩ => ⟨?_, hw⟩
        rw [he, ← hl]
        simp

set_option maxRecDepth 100000 in
set_option maxHeartbeats 3200000 in
theorem holding6_nil (TB LB SB Z stop : Nat) (x y : Nat) (p4 p6 : Addr) (w : World) (hx : x < 18446744073709551616) (hy : y < 18446744073709551616)
    (hzs : Hid (Zs w p4 p6)) (htl : TB < w.heap.size) (ht : Hid (w.cell? ⟨TB, 1, none⟩ = some (.slice none 0 0)))
    (hlog : Hid (LogAt w LB SB Z [] stop)) (hZ : Z ≤ w.heap.size) :
    Calls Ybad.prog 10 #[.pointer (some ⟨TB, 0, none⟩), .agg #[.int .u64 x, .int .u64 y, .pointer (some p6)], .func (.func 18) #[] #[.pointer (some ⟨LB, 0, none⟩), .pointer (some ⟨SB, 0, none⟩)]] w fun e w' => e = .returned (.tuple #[]) ∧ Hid (LogAt w' LB SB Z [] stop) ∧ Hid (Held Z [LB] w w') := by
  have k0' : Hid (Kept [] w (w.alloc (.cells #[.int .u64 x, .int .u64 y, .pointer (some p6)] 48))) := (Kept.refl _ _).alloc _
  go_enter Ybad.func10, Ybad.ntmps10
  go_wp2_with fail
  refine (is4_not _ _ p4 p6 _ (hzs.out.kept k0'.out)).mono ?_
  rintro e w1 ⟨rfl, k1⟩
  have q0 : (w.alloc (.cells #[.int .u64 x, .int .u64 y, .pointer (some p6)] 48)).cell? ⟨w.heap.size, 0, none⟩ = some (.int .u64 x) := by go_simp
  have q1 : (w.alloc (.cells #[.int .u64 x, .int .u64 y, .pointer (some p6)] 48)).cell? ⟨w.heap.size, 1, none⟩ = some (.int .u64 y) := by go_simp
  have q2 : (w.alloc (.cells #[.int .u64 x, .int .u64 y, .pointer (some p6)] 48)).cell? ⟨w.heap.size, 2, none⟩ = some (.pointer (some p6)) := by go_simp
  have r0 := (k1.out.cell w.heap.size 0 (by simp) (by simp)).trans q0
  have r1 := (k1.out.cell w.heap.size 1 (by simp) (by simp)).trans q1
  have r2 := (k1.out.cell w.heap.size 2 (by simp) (by simp)).trans q2
  have kk1 : Hid (Kept [] w w1) := k0'.out.trans k1.out
  clear k0' k1 q0 q1 q2
  go_wp2_with fail
  refine (halves_any x y _ w1 hx hy).mono ?_
  rintro e w2 ⟨rfl, k2⟩
  have kk2 : Hid (Kept [] w w2) := kk1.out.trans k2.out
  have tc := (kk2.out.cell TB 1 htl (by simp)).trans ht.out
  clear r0 r1 r2 kk1 k2
  go_wp2
  clear tc
  have hh0 : Hid (Held Z [LB] w w2) := kk2.out.held Z hZ (by simp)
  have hlog2 : Hid (LogAt w2 LB SB Z [] stop) := hlog.out.kept kk2.out
  go_loopw [61] (fun i wr => i = .int .i64 0 ∧ wr = w2) (fun i _ => 0)
  case atStart => exact ⟨rfl, rfl⟩
  case round =>
    obtain ⟨rfl, rfl⟩ := hrel
    go_wp2
    go_end0
    exact ⟨rfl, hlog2, hh0⟩

theorem encL_get (lv : List Lev) : ∀ i l, lv[i]? = some l → (lv.flatMap encL)[i * 2]? = some (.int .u8 l.bits) ∧ (lv.flatMap encL)[i * 2 + 1]? = some (.slice (some ⟨l.B, 0, none⟩) l.n l.c) := by
  induction lv with
  | nil => intro i l h; simp at h
  | cons a r ih =>
    intro i l h
    rw [List.flatMap_cons]
    cases i with
    | zero => simp at h; subst h; exact ⟨rfl, rfl⟩
    | succ i =>
      have h2 := ih i l (by simpa using h)
      have e : (encL a).length = 2 := rfl
      rw [List.getElem?_append_right (by rw [e]; omega), List.getElem?_append_right (by rw [e]; omega), e]
      rw [show (i + 1) * 2 - 2 = i * 2 from by omega, show (i + 1) * 2 + 1 - 2 = i * 2 + 1 from by omega]
      exact h2
theorem OSt.levs {w w4 : World} {TB SB stop VB k cap LB : Nat} {lv : List Lev} {vw : Value} {wl : List Int} (h : OSt w w4 TB SB stop lv vw wl) (hL : Tag w4 LB 32) (hc : w4.cell? ⟨TB, 1, none⟩ = some (.slice (some ⟨VB, 0, none⟩) k cap)) :
    LevsAt w4 VB w4.heap.size LB lv ∧ VB < w4.heap.size ∧ VB ≠ LB ∧ lv.length = k := by
  obtain ⟨vv, t1, t2⟩ := h.tc
  rw [hc] at t1
  obtain rfl : .slice (some ⟨VB, 0, none⟩) k cap = vv := by simpa using t1
  have hk : lv.length = k := by
    rcases t2.2 with ⟨e, _⟩ | ⟨g, c, cur, e, _⟩
    · cases e
    · cases e; rfl
  have tv : Tag w4 VB 68 := owns_tag t2 VB rfl
  refine ⟨fun i l hl => ?_, tv.lt, tv.ne hL (by decide), hk⟩
  have hi : i < lv.length := (List.getElem?_eq_some_iff.1 hl).1
  obtain ⟨r1, r2, r3, r4, r5⟩ := h.lvs l (List.mem_of_getElem? hl)
  obtain ⟨e0, e1⟩ := encL_get lv i l hl
  subst hk
  exact ⟨by rw [t2.cellAt _ (by omega)]; exact e0, by rw [t2.cellAt _ (by omega)]; exact e1, r1, r2, r3, r4, r5, r1.lt, Tag.ne r1.tag hL (by decide)⟩
theorem hold_all (x y : Nat) (p4 p6 : Addr) (w w4 : World) (TB SB LB stop : Nat) (lv : List Lev) (vw : Value) (wl : List Int) (hx : x < 18446744073709551616) (hy : y < 18446744073709551616)
    (hzs : Zs w4 p4 p6) (h : OSt w w4 TB SB stop lv vw wl) (hL : Tag w4 LB 32) (hc : w4.cell? ⟨LB, 0, none⟩ = some (.slice none 0 0)) (hf : w4.frozen? ⟨LB, 0, none⟩ = false) (hlv : lv.length ≤ 1000) (hst : stop ≤ 255) :
    Calls Ybad.prog 10 #[.pointer (some ⟨TB, 0, none⟩), .agg #[.int .u64 x, .int .u64 y, .pointer (some p6)], .func (.func 18) #[] #[.pointer (some ⟨LB, 0, none⟩), .pointer (some ⟨SB, 0, none⟩)]] w4 fun e w' => e = .returned (.tuple #[]) ∧ Hid (LogAt w' LB SB w4.heap.size (cutL (found x y lv) stop) stop) ∧ Hid (Held w4.heap.size [LB] w4 w') := by
  have hlog : LogAt w4 LB SB w4.heap.size [] stop := ⟨hL.lt, h.sg.lt, ⟨_, hc, World.ownsRow_nil _ _ _ _⟩, hf, h.sc⟩
  obtain ⟨vv, t1, t2⟩ := h.tc
  rcases t2.2 with ⟨rfl, h0⟩ | ⟨g, cap, cur, rfl, _⟩
  · obtain rfl : lv = [] := List.eq_nil_of_length_eq_zero h0
    refine (holding6_nil TB LB SB w4.heap.size stop x y p4 p6 w4 hx hy hzs h.tl t1 hlog (Nat.le_refl _)).mono fun e w' ⟨a, b, c⟩ => ⟨a, ?_, c⟩
    have : cutL (found x y []) stop = [] := by unfold cutL found; simp
    rw [this]; exact b
  · obtain ⟨a1, a2, a3, a4⟩ := h.levs hL t1
    exact holding6 TB g LB SB w4.heap.size stop lv.length cap x y p4 p6 (.slice none 0 0) lv w4 hx hy hzs h.tl t1 rfl (by omega) a1 hlog (Nat.le_refl _) a2 hL.lt h.sg.lt a3 (Tag.ne hL h.sg (by decide)) hst
theorem owns_held {w w' : World} {base e size n Z : Nat} {v : Value} {xs : List Value} (h : w.ownsRow base e size v n xs) {S : List Nat} (k : Held Z S w w') (hs : ∀ g, v.ownBlock = some g → g < Z ∧ g ∉ S) : w'.ownsRow base e size v n xs := by
  obtain ⟨h1, h2 | ⟨g, cap, cur, rfl, a, b, c⟩⟩ := h
  · exact ⟨h1, .inl h2⟩
  · refine ⟨h1, .inr ⟨g, cap, cur, rfl, a, ?_, c⟩⟩
    rw [k.block g (hs g rfl).1 (hs g rfl).2]; exact b
end Go.Proofs.YbulkbnryDoor
