import Derived.Test.YbulkbnxwFmtProg
import Derived.Test.YbulkbnxwFmtPlain
import Derived.BigQuiet
namespace Go.Proofs.YbulkbnxwFmt
open Go.RowKit

/-- A row of int64 at the head of block b. -/
def Nums (w : World) (b : Nat) (xs : List Int) : Prop := ∀ i, i < xs.length → w.cell? ⟨b, i, none⟩ = some (.int .i64 (xs.getD i 0))

theorem below_drewN {B : Nat} {w w1 : World} (h : Below B w w1) (n : Nat) : Below B w (w1.drewN n) := ⟨h.os, h.tape, h.output, h.size, h.block⟩
theorem st0 {d x y : Int} {xs : List Int} {k : Nat} (hq : (x, 0) = vote d (xs.take k)) (hv : vote d (xs.take (k + 1)) = step (vote d (xs.take k)) (xs.getD k 0)) (hy : y = xs.getD k 0) : (y, 1) = vote d (xs.take (k + 1)) := by
  rw [hv, ← hq, ← hy]; simp [step]
theorem st1 {d y : Int} {xs : List Int} {k q : Nat} (hq : (y, q) = vote d (xs.take k)) (hv : vote d (xs.take (k + 1)) = step (vote d (xs.take k)) (xs.getD k 0)) (hy : y = xs.getD k 0) (h0 : ¬ q = 0) : (y, q + 1) = vote d (xs.take (k + 1)) := by
  rw [hv, ← hq, ← hy]; simp [step, h0]
theorem st2 {d x y : Int} {xs : List Int} {k q : Nat} (hq : (x, q) = vote d (xs.take k)) (hv : vote d (xs.take (k + 1)) = step (vote d (xs.take k)) (xs.getD k 0)) (hy : y = xs.getD k 0) (h0 : ¬ q = 0) (h1 : ¬ y = x) : (x, q - 1) = vote d (xs.take (k + 1)) := by
  rw [hv, ← hq, ← hy]; simp [step, h0, h1]
theorem take_all {xs : List Int} {k n : Nat} (hl : xs.length = n) (hk : k ≤ n) (h : ¬ k < n) : xs.take k = xs := List.take_of_length_le (by omega)

set_option maxRecDepth 100000 in
set_option maxHeartbeats 1600000 in
theorem majority_any (b : Nat) (xs : List Int) (n cap : Nat) (d : Int) (w : World) (hx : Hid (Nums w b xs)) (hl : Hid (xs.length = n)) (hn : n ≤ 100000) :
    Calls Ybaf.prog 20 #[.slice (some ⟨b, 0, none⟩) n cap, .int .i64 d] w fun e w' => e = .returned (.int .i64 (maj xs d)) ∧ w' = w := by
  go_enter Ybaf.func20, Ybaf.ntmps20
  go_wp2
  go_loop [5, 6, 15] (fun c l i => ∃ (k q : Nat) (x : Int), k ≤ n ∧ i = .int .i64 k ∧ c = .int .i64 x ∧ l = .int .i64 q ∧ Hid ((x, q) = vote d (xs.take k)) ∧ q ≤ k) (fun _ _ i => n - (intOf i).toNat)
  case atStart => exact ⟨0, 0, d, Nat.zero_le _, rfl, rfl, rfl, rfl, Nat.le_refl _⟩
  case round =>
    obtain ⟨k, q, x, hk, rfl, rfl, rfl, hq, hqk⟩ := hrel
    by_cases hlt : k < n
    · have hc := hx.out k (by have := hl.out; omega)
      have hv : Hid _ := vote_take d xs k (by have := hl.out; omega)
      obtain ⟨y, hy⟩ : ∃ y, y = xs.getD k 0 := ⟨_, rfl⟩
      rw [← hy] at hc
      have hy' : Hid _ := hy
      clear hy
      by_cases h0 : q = 0
      · subst h0
        go_wp2
        go_round
        case rel => exact ⟨k + 1, 1, y, hlt, by go_num, rfl, rfl, st0 hq.out hv.out hy'.out, by omega⟩
        case measure => simp [intOf]; omega
      · by_cases h1 : y = x
        · subst h1
          go_wp2
          go_round
          case rel => exact ⟨k + 1, q + 1, y, hlt, by go_num, rfl, by go_num, st1 hq.out hv.out hy'.out h0, by omega⟩
          case measure => simp [intOf]; omega
        · go_wp2
          go_round
          case rel => exact ⟨k + 1, q - 1, x, hlt, by go_num, rfl, by go_num, st2 hq.out hv.out hy'.out h0 h1, by omega⟩
          case measure => simp [intOf]; omega
    · obtain rfl : k = n := by omega
      have hc0 : Hid (x = (vote d xs).1) := by
        have := hq.out
        rw [take_all hl.out (Nat.le_refl _) hlt] at this
        exact congrArg Prod.fst this
      clear hq
      go_wp2
      go_loop [9, 34] (fun c i => ∃ (j : Nat) (m : Nat), j ≤ k ∧ i = .int .i64 j ∧ c = .int .i64 m ∧ Hid (m = (xs.take j).count x) ∧ m ≤ j) (fun _ i => k - (intOf i).toNat)
      case atStart => exact ⟨0, 0, Nat.zero_le _, rfl, rfl, by simp [Hid], Nat.le_refl _⟩
      case round =>
        obtain ⟨j, m, hj, rfl, rfl, hm, hmj⟩ := hrel
        by_cases hjlt : j < k
        · have hc := hx.out j (by have := hl.out; omega)
          have hv : Hid _ := count_take x xs j (by have := hl.out; omega)
          obtain ⟨y, hy⟩ : ∃ y, y = xs.getD j 0 := ⟨_, rfl⟩
          rw [← hy] at hc
          have hy' : Hid _ := hy
          clear hy
          by_cases h1 : y = x
          · subst h1
            go_wp2
            go_round
            case rel => exact ⟨j + 1, m + 1, hjlt, by go_num, by go_num, by have := hv.out; rw [← hy'.out, if_pos rfl, ← hm.out] at this; exact this.symm, by omega⟩
            case measure => simp [intOf]; omega
          · go_wp2
            go_round
            case rel => exact ⟨j + 1, m, hjlt, by go_num, rfl, by have := hv.out; rw [← hy'.out, if_neg h1, ← hm.out] at this; exact this.symm, by omega⟩
            case measure => simp [intOf]; omega
        · have hm2 : Hid (m = xs.count x) := by
            have := hm.out
            rwa [take_all hl.out hj hjlt] at this
          by_cases hbig : (k : Int) < 2 * (m : Int)
          · go_wp2
            go_ret
            refine ⟨?_, rfl⟩
            unfold maj
            rw [← hc0.out, ← hm2.out, hl.out, if_pos (by omega)]
            rfl
          · go_wp2
            go_ret
            refine ⟨?_, rfl⟩
            unfold maj
            rw [← hc0.out, ← hm2.out, hl.out, if_neg (by omega)]
            rfl

set_option maxRecDepth 100000 in
set_option maxHeartbeats 1600000 in
theorem plain_any (b : Nat) (xs : List Int) (n cap : Nat) (d : Int) (w : World) (hx : Hid (Nums w b xs)) (hl : Hid (xs.length = n)) (hn : n ≤ 100000) :
    Calls Ybaf.prog 13 #[.slice (some ⟨b, 0, none⟩) n cap, .int .i64 d] w fun e w' => e = .returned (.int .i64 (plain xs d)) ∧ Below w.heap.size w w' := by
  go_enter Ybaf.func13, Ybaf.ntmps13
  go_wp2
  go_loopw [5] (fun i wr => ∃ (k : Nat), k ≤ n ∧ i = .int .i64 k ∧ Hid (NoneYet xs k) ∧ Hid (Nums wr b xs) ∧ Hid (Below w.heap.size w wr)) (fun i _ => n - (intOf i).toNat)
  case atStart => exact ⟨0, Nat.zero_le _, rfl, fun i hi => absurd hi (Nat.not_lt_zero _), hx, Below.refl _ _⟩
  case round =>
    obtain ⟨k, hk, rfl, hno, hxr, hbl⟩ := hrel
    by_cases hlt : k < n
    · obtain ⟨x, hx0⟩ : ∃ x, x = xs.getD k 0 := ⟨_, rfl⟩
      have hxk : Hid _ := hx0
      clear hx0
      go_wp2
      go_loopw [6, 7] (fun c i ws => ∃ (j m : Nat), j ≤ n ∧ i = .int .i64 j ∧ c = .int .i64 m ∧ Hid (m = (xs.take j).count x) ∧ m ≤ j ∧ Hid (Nums ws b xs) ∧ Hid (Below w.heap.size w ws)) (fun _ i _ => n - (intOf i).toNat)
      case atStart => exact ⟨0, 0, Nat.zero_le _, rfl, rfl, by simp [Hid], Nat.le_refl _, hxr, hbl⟩
      case round =>
        clear hxr hbl
        obtain ⟨j, m, hj, rfl, rfl, hm, hmj, hxr, hbl⟩ := hrel
        by_cases hjlt : j < n
        · have hcj := hxr.out j (by have := hl.out; omega)
          have hck := hxr.out k (by have := hl.out; omega)
          have hv : Hid _ := count_take x xs j (by have := hl.out; omega)
          obtain ⟨y, hy⟩ : ∃ y, y = xs.getD j 0 := ⟨_, rfl⟩
          rw [← hy] at hcj
          rw [← hxk.out] at hck
          have hy' : Hid _ := hy
          clear hy
          by_cases h1 : y = x
          · subst h1
            go_wp2_with fail
            go_quiet (fail)
            go_wp2
            go_roundw
            case rel => exact ⟨j + 1, m + 1, hjlt, by go_num, by go_num, by have := hv.out; rw [← hy'.out, if_pos rfl, ← hm.out] at this; exact this.symm, by omega, hxr.out, below_drewN hbl.out _⟩
            case measure => simp [intOf]; omega
          · go_wp2_with fail
            go_quiet (fail)
            go_wp2
            go_roundw
            case rel => exact ⟨j + 1, m, hjlt, by go_num, rfl, by have := hv.out; rw [← hy'.out, if_neg h1, ← hm.out] at this; exact this.symm, by omega, hxr.out, below_drewN hbl.out _⟩
            case measure => simp [intOf]; omega
        · have hm2 : Hid (m = xs.count x) := by
            have := hm.out
            rwa [take_all hl.out hj hjlt] at this
          have hck := hxr.out k (by have := hl.out; omega)
          rw [← hxk.out] at hck
          by_cases hbig : (n : Int) < 2 * (m : Int)
          · go_wp2
            go_ret
            refine ⟨?_, hbl.out⟩
            rw [plain_hit xs d k (by rw [hl.out]; exact hlt) hno.out (by rw [← hxk.out, ← hm2.out, hl.out]; omega), ← hxk.out]
            rfl
          · go_wp2
            go_roundw
            case rel => exact ⟨k + 1, hlt, by go_num, noneYet_succ hno.out (by rw [← hxk.out, ← hm2.out, hl.out]; omega), hxr.out, hbl.out⟩
            case measure => simp [intOf]; omega
    · obtain rfl : k = n := by omega
      go_wp2
      go_ret
      refine ⟨?_, hbl.out⟩
      rw [plain_none xs d (by rw [hl.out]; exact hno.out)]
      rfl
end Go.Proofs.YbulkbnxwFmt
