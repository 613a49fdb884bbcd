import Derived.Test.YbulkbnryDoorSort6
import Derived.Test.YbulkbnryDoorBits
namespace Go.Proofs.YbulkbnryDoor
open Go.RowKit Go.Sort
set_option linter.unusedSimpArgs false
set_option linter.unusedVariables false

theorem enters53 (args : Array Value) (w : World) : (callFunc 53 args).run Ybad.prog w = .ok (.enter 53 args) w := enters_of Ybad.func53 (by kernel_rfl) rfl args w

/-- What the search finds: i is the first place that is not less; b: it is there, and equal. -/
def Hits (ns : List Net) (n : Nat) (hi lo : Int) (i : Nat) (b : Bool) : Prop :=
  i ≤ n ∧ (b = true ↔ i < n ∧ cf53 (ns.getD i default) ⟨hi, lo, 0⟩ = 0) ∧ (∀ a, a < i → cf53 (ns.getD a default) ⟨hi, lo, 0⟩ < 0) ∧ (∀ a, i ≤ a → a < n → 0 ≤ cf53 (ns.getD a default) ⟨hi, lo, 0⟩)
theorem kept_grow (w : World) (q : Nat) (os : Array Obj) : Kept [] w (grow (w.drewN q) os) := by
  refine ⟨rfl, rfl, rfl, ?_, ?_⟩
  · show w.heap.size ≤ (w.heap ++ os).size
    simp
  · intro k hk _
    show (w.heap ++ os)[k]? = w.heap[k]?
    rw [Array.getElem?_append, if_pos hk]
theorem closure53k (xh xl xp yh yl yp r : Int) (hr : cf53 ⟨xh, xl, xp⟩ ⟨yh, yl, yp⟩ = r) (W : World) :
    Calls Ybad.prog 53 #[.agg #[.int .u64 xh, .int .u64 xl, .int .i64 xp], .agg #[.int .u64 yh, .int .u64 yl, .int .i64 yp]] W fun e w' => e = .returned (.int .i64 r) ∧ Kept [] W w' :=
  (closure53 ⟨xh, xl, xp⟩ ⟨yh, yl, yp⟩ W).mono fun e w' ⟨he, q, os, hw⟩ => ⟨by rw [he, hr], by rw [hw]; exact kept_grow W q os⟩

set_option maxRecDepth 100000 in
set_option maxHeartbeats 3200000 in
theorem bsearch6 (B c n : Nat) (ns : List Net) (hi lo : Int) (w : World) (h : Hid (Row6 w B ns)) (hl : Hid (ns.length = n)) (hn : n ≤ 100000)
    (hmono : Hid (∀ a b, a ≤ b → b < n → cf53 (ns.getD b default) ⟨hi, lo, 0⟩ < 0 → cf53 (ns.getD a default) ⟨hi, lo, 0⟩ < 0)) :
    Calls Ybad.prog 52 #[.slice (some ⟨B, 0, none⟩) n c, .agg #[.int .u64 hi, .int .u64 lo, .int .i64 0], .func (.func 53) #[] #[]] w fun e w' => ∃ (i : Nat) (b : Bool), e = .returned (.tuple #[.int .i64 i, .bool b]) ∧ Hits ns n hi lo i b ∧ Hid (Kept [] w w') := by
  have eg := enters53
  go_enter Ybad.func52, Ybad.ntmps52
  go_wp2
  obtain ⟨W1, hW1⟩ : ∃ W1, Hid (w.alloc (.cells #[.int .u64 hi, .int .u64 lo, .int .i64 0] 61) = W1) := ⟨_, rfl⟩
  have k1 : Hid (Kept [] w W1) := by show Kept [] w W1; rw [← hW1.out]; exact (Kept.refl _ _).alloc _
  have c0 : Hid (W1.cell? ⟨w.heap.size, 0, none⟩ = some (.int .u64 hi)) := by show W1.cell? _ = _; rw [← hW1.out]; go_simp
  have c1 : Hid (W1.cell? ⟨w.heap.size, 1, none⟩ = some (.int .u64 lo)) := by show W1.cell? _ = _; rw [← hW1.out]; go_simp
  have c2 : Hid (W1.cell? ⟨w.heap.size, 2, none⟩ = some (.int .i64 0)) := by show W1.cell? _ = _; rw [← hW1.out]; go_simp
  have s1 : Hid (w.heap.size < W1.heap.size) := by show w.heap.size < W1.heap.size; rw [← hW1.out]; simp
  rw [hW1.out]
  clear hW1
  go_loopw [9, 10] (fun vi vj wr => ∃ i j : Nat, i ≤ j ∧ j ≤ n ∧ vi = .int .i64 i ∧ vj = .int .i64 j ∧ Hid (∀ a, a < i → cf53 (ns.getD a default) ⟨hi, lo, 0⟩ < 0) ∧ Hid (∀ a, j ≤ a → a < n → 0 ≤ cf53 (ns.getD a default) ⟨hi, lo, 0⟩) ∧ Hid (Kept [] W1 wr)) (fun vi vj _ => (intOf vj).toNat - (intOf vi).toNat)
  case atStart => exact ⟨0, n, Nat.zero_le _, Nat.le_refl _, rfl, rfl, fun a ha => absurd ha (Nat.not_lt_zero _), fun a h1 h2 => absurd h2 (by omega), Kept.refl _ _⟩
  case round =>
    obtain ⟨i, j, hij, hjn, rfl, rfl, hlow, hup, hk⟩ := hrel
    have hrow : Hid (Row6 wr B ns) := (h.out.kept k1.out (by simp)).kept hk.out (by simp)
    have b0 := (hk.out.cell w.heap.size 0 s1.out (by simp)).trans c0.out
    have b1 := (hk.out.cell w.heap.size 1 s1.out (by simp)).trans c1.out
    have b2 := (hk.out.cell w.heap.size 2 s1.out (by simp)).trans c2.out
    by_cases hlt : i < j
    · obtain ⟨m, hm⟩ : ∃ m : Nat, Hid (m = (i + j) / 2) := ⟨_, rfl⟩
      have hm1 : i ≤ m := by have := hm.out; omega
      have hm2 : m < j := by have := hm.out; omega
      obtain ⟨⟨xh, xl, xp⟩, hx⟩ : ∃ x : Net, Hid (ns.getD m default = x) := ⟨_, rfl⟩
      obtain ⟨a0, a1, a2⟩ := hrow.out.cell m (by have := hl.out; omega)
      rw [hx.out] at a0 a1 a2
      simp only at a0 a1 a2
      obtain ⟨r, hr⟩ : ∃ r, Hid (cf53 ⟨xh, xl, xp⟩ ⟨hi, lo, 0⟩ = r) := ⟨_, rfl⟩
      have hcl := closure53k xh xl xp hi lo 0 r hr.out
      have im1 : (0 : Int) ≤ (m : Int) := by omega
      have im2 : (m : Int) < (n : Int) := by omega
      have lB : B < wr.heap.size := hrow.out.lt
      have lw : w.heap.size < wr.heap.size := Nat.lt_of_lt_of_le s1.out hk.out.size
      go_wp2_with fail
      rw [show ((i : Int) + (j : Int)) / 2 = (m : Int) from by have := hm.out; omega]
      go_region_held3 (fun W => W.cell? ⟨B, m * 3, none⟩ = some (.int .u64 xh) ∧ W.cell? ⟨B, m * 3 + 1, none⟩ = some (.int .u64 xl) ∧ W.cell? ⟨B, m * 3 + 2, none⟩ = some (.int .i64 xp) ∧ W.cell? ⟨w.heap.size, 0, none⟩ = some (.int .u64 hi) ∧ W.cell? ⟨w.heap.size, 1, none⟩ = some (.int .u64 lo) ∧ W.cell? ⟨w.heap.size, 2, none⟩ = some (.int .i64 0)) (first | (simp [go_sem, a0, a1, a2, b0, b1, b2]; done) | (have hx2 := k2.out; refine ⟨?_, ?_, ?_, ?_, ?_, ?_⟩ <;> (rw [hx2.cell _ _ (by show _ < wr.heap.size; omega) (by simp)]; assumption)))
        (first
        | (go_at_call 53; refine (hcl _).mono ?_; rintro e w2 ⟨rfl, k2'⟩; have k2 : Hid _ := k2'; clear k2'))
      have hk2 : Hid (Kept [] W1 w2) := (hk.out.drewN 1).trans k2.out
      clear k2 a0 a1 a2 b0 b1 b2 hcl
      by_cases hr0 : r < 0
      · go_wp2
        go_roundw
        case rel => exact ⟨m + 1, j, hm2, hjn, by go_num, rfl, fun a ha => hmono.out a m (by omega) (by omega) (by rw [hx.out, hr.out]; exact hr0), hup.out, hk2.out⟩
        case measure => simp [intOf]; omega
      · go_wp2
        go_roundw
        case rel => exact ⟨i, m, hm1, by omega, rfl, rfl, hlow.out, fun a h1 h2 => by
          by_cases h3 : cf53 (ns.getD a default) ⟨hi, lo, 0⟩ < 0
          · exact absurd (by rw [← hr.out, ← hx.out]; exact hmono.out m a h1 h2 h3) hr0
          · omega, hk2.out⟩
        case measure => simp [intOf]; omega
    · obtain rfl : i = j := by omega
      by_cases hin : i < n
      · obtain ⟨⟨xh, xl, xp⟩, hx⟩ : ∃ x : Net, Hid (ns.getD i default = x) := ⟨_, rfl⟩
        obtain ⟨a0, a1, a2⟩ := hrow.out.cell i (by have := hl.out; omega)
        rw [hx.out] at a0 a1 a2
        simp only at a0 a1 a2
        obtain ⟨r, hr⟩ : ∃ r, Hid (cf53 ⟨xh, xl, xp⟩ ⟨hi, lo, 0⟩ = r) := ⟨_, rfl⟩
        have hcl := closure53k xh xl xp hi lo 0 r hr.out
        have lB : B < wr.heap.size := hrow.out.lt
        have lw : w.heap.size < wr.heap.size := Nat.lt_of_lt_of_le s1.out hk.out.size
        go_wp2_with fail
        go_region_held3 (fun W => W.cell? ⟨B, i * 3, none⟩ = some (.int .u64 xh) ∧ W.cell? ⟨B, i * 3 + 1, none⟩ = some (.int .u64 xl) ∧ W.cell? ⟨B, i * 3 + 2, none⟩ = some (.int .i64 xp) ∧ W.cell? ⟨w.heap.size, 0, none⟩ = some (.int .u64 hi) ∧ W.cell? ⟨w.heap.size, 1, none⟩ = some (.int .u64 lo) ∧ W.cell? ⟨w.heap.size, 2, none⟩ = some (.int .i64 0)) (first | (simp [go_sem, a0, a1, a2, b0, b1, b2]; done) | (have hx2 := k2.out; refine ⟨?_, ?_, ?_, ?_, ?_, ?_⟩ <;> (rw [hx2.cell _ _ (by show _ < wr.heap.size; omega) (by simp)]; assumption)))
          (first
          | (go_at_call 53; refine (hcl _).mono ?_; rintro e w2 ⟨rfl, k2'⟩; have k2 : Hid _ := k2'; clear k2'))
        have hk2 : Hid (Kept [] w w2) := k1.out.trans ((hk.out.drewN 1).trans k2.out)
        clear k2 a0 a1 a2 b0 b1 b2 hcl
        go_wp2
        go_ret2
        exact ⟨i, (r == 0), rfl, ⟨hjn, by rw [hx.out, hr.out]; simp [hin], hlow.out, hup.out⟩, hk2.out⟩
      · have hdec : decide ((i : Int) < (n : Int)) = false := by simp; omega
        go_wp2_with fail
        go_quiet (fail)
        go_wp2
        go_ret2
        exact ⟨i, false, rfl, ⟨hjn, by simp [hin], hlow.out, hup.out⟩, k1.out.trans (hk.out.drewN nq)⟩
end Go.Proofs.YbulkbnryDoor
