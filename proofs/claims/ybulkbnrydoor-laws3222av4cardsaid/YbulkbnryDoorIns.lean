import Derived.Test.YbulkbnryDoorR64
namespace Go.Proofs.YbulkbnryDoor
open Go.RowKit
set_option linter.unusedSimpArgs false
set_option linter.unusedVariables false

/-- All of [a, i] but place j is sorted, and what stands at j is not above what follows. -/
def Ins (a i j : Nat) (G : Nat → Int) : Prop := (∀ p q, a ≤ p → p ≤ q → q ≤ i → p ≠ j → q ≠ j → G p ≤ G q) ∧ ∀ q, j < q → q ≤ i → G j ≤ G q
theorem Ins.start {a i : Nat} {G : Nat → Int} (h : Srt a i G) : Ins a i i G := ⟨fun p q h1 h2 h3 _ h5 => h p q h1 h2 (by omega), fun q h1 h2 => by omega⟩
theorem Ins.low {a i : Nat} {G : Nat → Int} (h : Ins a i a G) : Srt a (i + 1) G := by
  intro p q h1 h2 h3
  by_cases e : p = q
  · subst e; exact Int.le_refl _
  · by_cases e2 : p = a
    · subst e2; exact h.2 q (by omega) (by omega)
    · exact h.1 p q h1 h2 (by omega) e2 (by omega)
theorem Ins.stop {a i j : Nat} {G : Nat → Int} (h : Ins a i j G) (hj : a < j) (hl : G (j - 1) ≤ G j) : Srt a (i + 1) G := by
  intro p q h1 h2 h3
  by_cases e : p = q
  · subst e; exact Int.le_refl _
  · by_cases e2 : p = j
    · subst e2; exact h.2 q (by omega) (by omega)
    · by_cases e3 : q = j
      · subst e3
        exact Int.le_trans (h.1 p (q - 1) h1 (by omega) (by omega) e2 (by omega)) hl
      · exact h.1 p q h1 h2 (by omega) e2 e3
theorem Ins.step {a i j : Nat} {G : Nat → Int} (h : Ins a i j G) (hj : a < j) (hji : j ≤ i) (hl : G j < G (j - 1)) : Ins a i (j - 1) (sw G j (j - 1)) := by
  refine ⟨fun p q h1 h2 h3 h4 h5 => ?_, fun q h1 h2 => ?_⟩
  · by_cases ep : p = j
    · subst ep
      rw [sw_l]
      by_cases eq : q = p
      · subst eq; rw [sw_l]; exact Int.le_refl _
      · rw [sw_o _ _ _ _ eq h5]; exact h.1 (p - 1) q (by omega) (by omega) h3 (by omega) eq
    · rw [sw_o _ _ _ _ ep h4]
      by_cases eq : q = j
      · subst eq; rw [sw_l]; exact h.1 p (q - 1) h1 (by omega) (by omega) ep (by omega)
      · rw [sw_o _ _ _ _ eq h5]; exact h.1 p q h1 h2 h3 ep eq
  · rw [sw_r]
    by_cases eq : q = j
    · subst eq; rw [sw_l]; omega
    · rw [sw_o _ _ _ _ eq (by omega)]; exact h.2 q (by omega) h2

theorem Srt.one (a : Nat) (G : Nat → Int) : Srt a (a + 1) G := by
  intro p q h1 h2 h3
  obtain rfl : p = q := by omega
  exact Int.le_refl _
theorem Srt.none {a b : Nat} (h : b ≤ a) (G : Nat → Int) : Srt a b G := fun p q h1 h2 h3 => by omega
set_option maxRecDepth 100000 in
set_option maxHeartbeats 1600000 in
theorem insertion35 (B off n cap a b : Nat) (G : Nat → Int) (w : World) (h : Hid (R64 w w B off n G)) (hab : a ≤ b) (hb : b ≤ n) (hn : n ≤ 100000) :
    Calls Ybad.prog 35 #[.slice (some ⟨B, off, none⟩) n cap, .int .i64 a, .int .i64 b] w fun e w' => e = .returned (.tuple #[]) ∧ ∃ G', Hid (R64 w w' B off n G') ∧ Hid (Same a b G G') ∧ Hid (Srt a b G') := by
  go_enter Ybad.func35, Ybad.ntmps35
  go_wp2
  go_loopw [6] (fun vi wr => ∃ (i : Nat) (G' : Nat → Int), vi = .int .i64 i ∧ a < i ∧ i ≤ b + 1 ∧ Hid (R64 w wr B off n G') ∧ Hid (Same a b G G') ∧ Hid (i ≤ b → Srt a i G') ∧ Hid (b < i → Srt a b G')) (fun vi _ => b + 1 - (intOf vi).toNat)
  case atStart => exact ⟨a + 1, G, by go_num, by omega, by omega, h, Same.refl _ _ _, fun _ => Srt.one a G, fun hh => Srt.none (by omega) G⟩
  case round =>
    obtain ⟨i, G1, rfl, hai, hib, hr, hs, ho, ho2⟩ := hrel
    by_cases hlt : i < b
    · have hso : Hid (Srt a i G1) := ho.out (by omega)
      clear ho ho2
      go_wp2
      go_loopw [7] (fun vj wr2 => ∃ (j : Nat) (G' : Nat → Int), vj = .int .i64 j ∧ a ≤ j ∧ j ≤ i ∧ Hid (R64 w wr2 B off n G') ∧ Hid (Same a b G G') ∧ Hid (Ins a i j G')) (fun vj _ => (intOf vj).toNat)
      case atStart => exact ⟨i, G1, rfl, by omega, Nat.le_refl _, hr.out, hs.out, Ins.start hso.out⟩
      case round =>
        clear hr hs hso
        obtain ⟨j, G2, rfl, haj, hji, hr, hs, hin⟩ := hrel
        have hcw := hr.out.cell
        have hfw := hr.out.frz
        by_cases hja : a < j
        · by_cases hl : G2 j < G2 (j - 1)
          · have hnx : Hid (Ins a i (j - 1) (sw G2 j (j - 1))) := hin.out.step hja hji hl
            have hsx : Hid (Same a b G (sw G2 j (j - 1))) := hs.out.trans (Same.sw G2 (by omega) (by omega) (by omega) (by omega))
            go_wp2
            go_quiet (first | (go_at_call 41; refine Calls.quiet_of_same (less41 _ _ _)))
            go_wp2
            go_region
            all_goals go_wp2
            go_roundw
            case rel => exact ⟨j - 1, _, by congr 1; omega, by omega, by omega, hr.out.swap _ j (j - 1) (by omega) (by omega), hsx.out, hnx.out⟩
            case measure => simp [intOf]; omega
          · have hso : Hid (Srt a (i + 1) G2) := hin.out.stop hja (by omega)
            have hd : decide (G2 j < G2 (j - 1)) = false := by simpa using hl
            go_wp2
            go_quiet (first | (go_at_call 41; refine Calls.quiet_of_same (less41 _ _ _)))
            go_wp2
            go_roundw
            case rel => exact ⟨i + 1, G2, by go_num, by omega, by omega, hr.out.drewN _, hs.out, fun _ => hso.out, fun hh => by omega⟩
            case measure => simp [intOf]; omega
        · obtain rfl : j = a := by omega
          have hso : Hid (Srt j (i + 1) G2) := hin.out.low
          go_wp2
          go_quiet (first | (go_at_call 41; refine Calls.quiet_of_same (less41 _ _ _)))
          go_wp2
          go_roundw
          case rel => exact ⟨i + 1, G2, by go_num, by omega, by omega, hr.out.drewN _, hs.out, fun _ => hso.out, fun hh => by omega⟩
          case measure => simp [intOf]; omega
    · have hso : Hid (Srt a b G1) := by
        by_cases e : i = b
        · subst e; exact ho.out (Nat.le_refl _)
        · exact ho2.out (by omega)
      clear ho ho2
      go_wp2
      go_end0
      exact ⟨rfl, G1, hr, hs, hso⟩
end Go.Proofs.YbulkbnryDoor
