import Derived.Test.YbulkbnryDoorBest4
import Derived.Deep.RegionHeld3
namespace Go.Proofs.YbulkbnryDoor
open Go.RowKit
set_option linter.unusedSimpArgs false
set_option linter.unusedVariables false

theorem isNaN68 (x : Int) (w : World) : Calls Ybad.prog 68 #[.int .u64 x] w fun e w' => e = .returned (.bool false) ∧ w' = w := by
  go_enter Ybad.func68, Ybad.ntmps68
  go_wp2
  go_ret
  exact ⟨by simp, rfl⟩
theorem key49 (f : Nat) (w : World) (hf : f < 4294967296) : Calls Ybad.prog 49 #[.int .u32 f, .int .i64 (-1)] w fun e w' => e = .returned (.int .u64 ((f * 4294967296 : Nat) : Int)) ∧ w' = w := by
  have ho := or_key f 0 hf (by omega)
  rw [u64_wrap_id _ (by omega) (by omega)] at ho
  simp only [Nat.add_zero, Int.natCast_zero] at ho
  have ho' : bits .or .u64 ((f : Int) * 4294967296) 0 = ((f * 4294967296 : Nat) : Int) := ho
  clear ho
  go_enter Ybad.func49, Ybad.ntmps49
  go_wp2
  go_ret
  exact ⟨rfl, rfl⟩
set_option maxRecDepth 100000 in
set_option maxHeartbeats 1600000 in
theorem bsearch48 (B off n cap i0 : Nat) (G : Nat → Int) (T : Int) (w : World) (hcw : ∀ t, t < n → w.cell? ⟨B, off + t, none⟩ = some (.int .u64 (G t))) (hi0 : Hid (LB n G T i0)) (hn : n ≤ 100000) :
    Calls Ybad.prog 48 #[.slice (some ⟨B, off, none⟩) n cap, .int .u64 T] w fun e w' => e = .returned (.tuple #[.int .i64 i0, .bool (decide (i0 < n ∧ G i0 = T))]) ∧ w' = w := by
  have hle := hi0.out.le
  go_enter Ybad.func48, Ybad.ntmps48
  go_wp2
  go_loopw [7, 8] (fun vi vj wr => ∃ (i j : Nat), vi = .int .i64 i ∧ vj = .int .i64 j ∧ i ≤ i0 ∧ i0 ≤ j ∧ j ≤ n ∧ wr = w) (fun vi vj _ => (intOf vj - intOf vi).toNat)
  case atStart => exact ⟨0, n, rfl, rfl, Nat.zero_le _, hle, Nat.le_refl _, rfl⟩
  case round =>
    obtain ⟨i, j, rfl, rfl, hi, hj, hjn, rfl⟩ := hrel
    by_cases hij : i < j
    · obtain ⟨h, hh⟩ : ∃ h : Nat, ((i : Int) + (j : Int)) / 2 = (h : Int) := ⟨(i + j) / 2, by omega⟩
      have h1 : i ≤ h := by omega
      have h2 : h < j := by omega
      by_cases hl : G h < T
      · have hhi : h < i0 := by
          refine Nat.lt_of_not_le fun hc => ?_
          have := hi0.out.hi h hc (by omega); omega
        go_wp2_with (go_at_call 41; refine (less41 _ _ _).mono ?_; rintro e w' ⟨rfl, hw'⟩; obtain rfl := hw'.symm)
        go_roundw
        case rel => exact ⟨h + 1, j, by simp, rfl, by omega, hj, hjn, trivial⟩
        case measure => simp [intOf]; omega
      · have hd : decide (G h < T) = false := decide_eq_false hl
        have hhi : i0 ≤ h := by
          refine Nat.le_of_not_lt fun hc => ?_
          have := hi0.out.lo h hc; omega
        go_wp2_with (go_at_call 41; refine (less41 _ _ _).mono ?_; rintro e w' ⟨rfl, hw'⟩; obtain rfl := hw'.symm)
        go_roundw
        case rel => exact ⟨i, h, rfl, rfl, hi, hhi, by omega, trivial⟩
        case measure => simp [intOf]; omega
    · obtain rfl : i = i0 := by omega
      by_cases hin : i < n
      · by_cases he : G i = T
        · subst he
          go_wp2_with (first | (go_at_call 68; refine (isNaN68 _ _).mono ?_; rintro e w' ⟨rfl, hw'⟩; obtain rfl := hw'.symm))
          go_ret2
          exact ⟨by simp [hin], rfl⟩
        · have hb : (G i == T) = false := by simpa using he
          go_wp2_with (first | (go_at_call 68; refine (isNaN68 _ _).mono ?_; rintro e w' ⟨rfl, hw'⟩; obtain rfl := hw'.symm))
          go_ret2
          exact ⟨by simp [he], rfl⟩
      · have hd : decide ((i : Int) < (n : Int)) = false := decide_eq_false (by omega)
        go_wp2
        go_ret2
        exact ⟨by simp [hin], rfl⟩
/-- The row of a level's keys. -/
structure Row4 (w : World) (B n : Nat) (G : Nat → Int) : Prop where
  cell : ∀ t, t < n → w.cell? ⟨B, 0 + t, none⟩ = some (.int .u64 (G t))
  tag : Tag w B 35
theorem Row4.kept {S : List Nat} {w w' : World} {B n : Nat} {G : Nat → Int} (h : Row4 w B n G) (k : Kept S w w') (hs : B ∉ S) : Row4 w' B n G :=
  ⟨fun t ht => (k.cell B _ h.tag.lt hs).trans (h.cell t ht), h.tag.kept k hs⟩
set_option maxRecDepth 100000 in
set_option maxHeartbeats 1600000 in
theorem find4_none (B c n F : Nat) (bits : Int) (G : Nat → Int) (ks : List K4) (w : World) (h : Hid (Row4 w B n G)) (hk : Hid (KS n G ks)) (hF : F < 4294967296) (hn : n ≤ 100000) (hf : Hid (best F ks = none)) :
    Calls Ybad.prog 26 #[.agg #[.int .u8 bits, .slice (some ⟨B, 0, none⟩) n c], .int .u32 F] w fun e w' => e = .returned (.tuple #[.int .i64 0, .bool false]) ∧ Hid (Kept [] w w') := by
  have k0 : Hid (Kept [] w (w.alloc (.cells #[.int .u8 bits, .slice (some ⟨B, 0, none⟩) n c] 39))) := (Kept.refl _ _).alloc _
  have hr : Hid (Row4 (w.alloc (.cells #[.int .u8 bits, .slice (some ⟨B, 0, none⟩) n c] 39)) B n G) := h.out.kept k0.out (by simp)
  obtain ⟨i, hi, hc⟩ := find_case hk.out F
  have HI : Hid (LB n G ((F * 4294967296 : Nat) : Int) i) := hi
  have hle := hi.le
  have q1 : (w.alloc (.cells #[.int .u8 bits, .slice (some ⟨B, 0, none⟩) n c] 39)).cell? ⟨w.heap.size, 1, none⟩ = some (.slice (some ⟨B, 0, none⟩) n c) := by go_simp
  clear hi
  rcases hc with ⟨_, hc⟩ | ⟨x, hx, _⟩
  · go_enter Ybad.func26, Ybad.ntmps26
    go_wp2_with fail
    generalize w.alloc (.cells #[.int .u8 bits, .slice (some ⟨B, 0, none⟩) n c] 39) = W0 at k0 hr q1 ⊢
    have hcw := hr.out.cell
    go_quiet (first | (go_at_call 49; refine Calls.quiet_of_same (key49 _ _ hF)) | (go_at_call 48; refine Calls.quiet_of_same (bsearch48 B 0 n c i G _ _ hcw HI hn)))
    rcases hc with rfl | ⟨hin, x, hx, ok, hne⟩
    · go_wp2
      go_ret2
      exact ⟨rfl, k0.out.drewN _⟩
    · obtain ⟨o1, o2⟩ := ok
      have e1 : G i / 4294967296 = (x.f : Int) := by rw [hx]; unfold K4.key; omega
      have hcell : W0.cell? ⟨B, i, none⟩ = some (.int .u64 (G i)) := by have := hcw i hin; rwa [Nat.zero_add] at this
      have hb1 : ((x.f : Int) != (F : Int)) = true := by simp; omega
      have hb2 : ((i : Int) == (n : Int)) = false := by simp; omega
      clear hx hcw
      go_wp2
      go_ret2
      exact ⟨rfl, k0.out.drewN _⟩
  · rw [hf.out] at hx; cases hx
set_option maxRecDepth 100000 in
set_option maxHeartbeats 1600000 in
theorem find4_some (B c n F : Nat) (bits : Int) (G : Nat → Int) (ks : List K4) (p : Int) (w : World) (h : Hid (Row4 w B n G)) (hk : Hid (KS n G ks)) (hF : F < 4294967296) (hn : n ≤ 100000) (hf : Hid (best F ks = some p)) :
    Calls Ybad.prog 26 #[.agg #[.int .u8 bits, .slice (some ⟨B, 0, none⟩) n c], .int .u32 F] w fun e w' => e = .returned (.tuple #[.int .i64 p, .bool true]) ∧ Hid (Kept [] w w') := by
  have k0 : Hid (Kept [] w (w.alloc (.cells #[.int .u8 bits, .slice (some ⟨B, 0, none⟩) n c] 39))) := (Kept.refl _ _).alloc _
  have hr : Hid (Row4 (w.alloc (.cells #[.int .u8 bits, .slice (some ⟨B, 0, none⟩) n c] 39)) B n G) := h.out.kept k0.out (by simp)
  obtain ⟨i, hi, hc⟩ := find_case hk.out F
  have HI : Hid (LB n G ((F * 4294967296 : Nat) : Int) i) := hi
  have hle := hi.le
  have q1 : (w.alloc (.cells #[.int .u8 bits, .slice (some ⟨B, 0, none⟩) n c] 39)).cell? ⟨w.heap.size, 1, none⟩ = some (.slice (some ⟨B, 0, none⟩) n c) := by go_simp
  clear hi
  rcases hc with ⟨hx, _⟩ | ⟨x, hb, hin, hx, ok, hfx⟩
  · rw [hf.out] at hx; cases hx
  · go_enter Ybad.func26, Ybad.ntmps26
    go_wp2_with fail
    generalize w.alloc (.cells #[.int .u8 bits, .slice (some ⟨B, 0, none⟩) n c] 39) = W0 at k0 hr q1 ⊢
    have hcw := hr.out.cell
    go_quiet (first | (go_at_call 49; refine Calls.quiet_of_same (key49 _ _ hF)) | (go_at_call 48; refine Calls.quiet_of_same (bsearch48 B 0 n c i G _ _ hcw HI hn)))
    obtain ⟨o1, o2⟩ := ok
    obtain rfl : p = (x.p : Int) - 1 := by have := hf.out.symm.trans hb; simpa using this
    have e1 : G i / 4294967296 = (F : Int) := by rw [hx]; unfold K4.key; omega
    have e2 : G i % 4294967296 = (x.p : Int) := by rw [hx]; unfold K4.key; omega
    have hcell : W0.cell? ⟨B, i, none⟩ = some (.int .u64 (G i)) := by have := hcw i hin; rwa [Nat.zero_add] at this
    have hb2 : ((i : Int) == (n : Int)) = false := by simp; omega
    clear hx hcw hb hfx hf
    go_wp2
    go_ret2
    exact ⟨rfl, k0.out.drewN _⟩
end Go.Proofs.YbulkbnryDoor
