import Derived.Test.YbulkbnryDoorIns
namespace Go.Proofs.YbulkbnryDoor
open Go.RowKit
set_option linter.unusedSimpArgs false
set_option linter.unusedVariables false

def HpAt (hi : Nat) (H : Nat → Int) (k : Nat) : Prop := (2 * k + 1 < hi → H (2 * k + 1) ≤ H k) ∧ (2 * k + 2 < hi → H (2 * k + 2) ≤ H k)
def Hp (q hi : Nat) (H : Nat → Int) : Prop := ∀ k, q ≤ k → HpAt hi H k
structure HpR (lo r hi : Nat) (H : Nat → Int) : Prop where
  at' : ∀ k, lo ≤ k → k ≠ r → HpAt hi H k
  up : ∀ p, lo ≤ p → (r = 2 * p + 1 ∨ r = 2 * p + 2) → (2 * r + 1 < hi → H (2 * r + 1) ≤ H p) ∧ (2 * r + 2 < hi → H (2 * r + 2) ≤ H p)
  le : lo ≤ r
theorem HpR.start {lo hi : Nat} {H : Nat → Int} (h : Hp (lo + 1) hi H) : HpR lo lo hi H :=
  ⟨fun k h1 h2 => h k (by omega), fun p h1 h2 => by omega, Nat.le_refl _⟩
theorem HpR.leaf {lo r hi : Nat} {H : Nat → Int} (h : HpR lo r hi H) (hl : hi ≤ 2 * r + 1) : Hp lo hi H := by
  intro k hk
  by_cases e : k = r
  · subst e; exact ⟨fun _ => by omega, fun _ => by omega⟩
  · exact h.at' k hk e
theorem HpR.fit {lo r hi : Nat} {H : Nat → Int} (h : HpR lo r hi H) (hl : HpAt hi H r) : Hp lo hi H := by
  intro k hk
  by_cases e : k = r
  · subst e; exact hl
  · exact h.at' k hk e
theorem HpR.down {lo r hi c : Nat} {H : Nat → Int} (h : HpR lo r hi H) (hc : c = 2 * r + 1 ∨ c = 2 * r + 2) (hch : c < hi) (h1 : 2 * r + 1 < hi → H (2 * r + 1) ≤ H c) (h2 : 2 * r + 2 < hi → H (2 * r + 2) ≤ H c) (hlt : H r < H c) : HpR lo c hi (sw H r c) := by
  have hcr : c ≠ r := by omega
  have hle := h.le
  refine ⟨fun k hk hkc => ?_, fun p hp hcp => ?_, by omega⟩
  · by_cases ek : k = r
    · subst ek
      refine ⟨fun hh => ?_, fun hh => ?_⟩
      · rw [sw_l]
        by_cases e : 2 * k + 1 = c
        · rw [e, sw_r]; omega
        · rw [sw_o _ _ _ _ (by omega) e]; exact h1 hh
      · rw [sw_l]
        by_cases e : 2 * k + 2 = c
        · rw [e, sw_r]; omega
        · rw [sw_o _ _ _ _ (by omega) e]; exact h2 hh
    · have hk0 := h.at' k hk ek
      refine ⟨fun hh => ?_, fun hh => ?_⟩
      · rw [sw_o _ _ _ k ek hkc]
        by_cases e : 2 * k + 1 = r
        · rw [e, sw_l]
          have hu := h.up k hk (by omega)
          rcases hc with hc | hc
          · rw [hc] at hch ⊢; exact hu.1 hch
          · rw [hc] at hch ⊢; exact hu.2 hch
        · rw [sw_o _ _ _ _ e (by omega)]; exact hk0.1 hh
      · rw [sw_o _ _ _ k ek hkc]
        by_cases e : 2 * k + 2 = r
        · rw [e, sw_l]
          have hu := h.up k hk (by omega)
          rcases hc with hc | hc
          · rw [hc] at hch ⊢; exact hu.1 hch
          · rw [hc] at hch ⊢; exact hu.2 hch
        · rw [sw_o _ _ _ _ e (by omega)]; exact hk0.2 hh
  · obtain rfl : p = r := by omega
    rw [sw_l, sw_o _ _ _ (2 * c + 1) (by omega) (by omega), sw_o _ _ _ (2 * c + 2) (by omega) (by omega)]
    exact h.at' c (by omega) hcr
theorem Hp.max {hi : Nat} {H : Nat → Int} (h : Hp 0 hi H) : ∀ k, k < hi → H k ≤ H 0 := by
  intro k
  induction k using Nat.strongRecOn with
  | ind k ih =>
    intro hk
    by_cases e : k = 0
    · subst e; exact Int.le_refl _
    · have hp := h ((k - 1) / 2) (by omega)
      have h1 := ih ((k - 1) / 2) (by omega) (by omega)
      rcases (show k = 2 * ((k - 1) / 2) + 1 ∨ k = 2 * ((k - 1) / 2) + 2 by omega) with e1 | e1
      · have h2 := hp.1 (by omega)
        rw [← e1] at h2
        exact Int.le_trans h2 h1
      · have h2 := hp.2 (by omega)
        rw [← e1] at h2
        exact Int.le_trans h2 h1
def shf (F : Nat) (G : Nat → Int) : Nat → Int := fun k => G (F + k)
theorem sw_shift (F : Nat) (G : Nat → Int) (i j : Nat) : shf F (sw G (F + i) (F + j)) = sw (shf F G) i j := by
  funext k
  unfold shf sw
  by_cases e1 : k = j
  · rw [if_pos (by omega), if_pos e1]
  · rw [if_neg (by omega), if_neg e1]
    by_cases e2 : k = i
    · rw [if_pos (by omega), if_pos e2]
    · rw [if_neg (by omega), if_neg e2]
theorem Same.shift {F hi : Nat} {G G' : Nat → Int} (h : Same F (F + hi) G G') : Same 0 hi (shf F G) (shf F G') := by
  refine ⟨fun t ht => h.out (F + t) (by omega), fun t h1 h2 => ?_, fun t h1 h2 => ?_⟩
  · obtain ⟨s, s1, s2, e⟩ := h.fwd (F + t) (by omega) (by omega)
    refine ⟨s - F, by omega, by omega, ?_⟩
    unfold shf; rw [show F + (s - F) = s by omega]; exact e
  · obtain ⟨s, s1, s2, e⟩ := h.bwd (F + t) (by omega) (by omega)
    refine ⟨s - F, by omega, by omega, ?_⟩
    unfold shf; rw [show F + (s - F) = s by omega]; exact e
/-- Behind the first m stand the greater ones, in order. -/
structure HSt (m hi : Nat) (H : Nat → Int) : Prop where
  hp : Hp 0 m H
  le : ∀ p q, p < m → m ≤ q → q < hi → H p ≤ H q
  srt : Srt m hi H
theorem HSt.start {hi : Nat} {H : Nat → Int} (h : Hp 0 hi H) : HSt hi hi H := ⟨h, fun p q h1 h2 h3 => by omega, Srt.none (Nat.le_refl _) H⟩
theorem HSt.pull {m hi : Nat} {H : Nat → Int} (h : HSt (m + 1) hi H) : Hp 1 m (sw H 0 m) := by
  intro k hk
  have h0 := h.hp k (by omega)
  refine ⟨fun hh => ?_, fun hh => ?_⟩
  · rw [sw_o _ _ _ _ (by omega) (by omega), sw_o _ _ _ _ (by omega) (by omega)]; exact h0.1 (by omega)
  · rw [sw_o _ _ _ _ (by omega) (by omega), sw_o _ _ _ _ (by omega) (by omega)]; exact h0.2 (by omega)
theorem HSt.next {m hi : Nat} {H H' : Nat → Int} (h : HSt (m + 1) hi H) (hm : m < hi) (hs : Same 0 m (sw H 0 m) H') (hp : Hp 0 m H') : HSt m hi H' := by
  have e0 : ∀ q, m < q → H' q = H q := fun q hq => by rw [hs.out q (by omega), sw_o _ _ _ _ (by omega) (by omega)]
  have e1 : H' m = H 0 := by rw [hs.out m (by omega), sw_r]
  have e2 : ∀ p, p < m → ∃ r, r < m + 1 ∧ H' p = H r := by
    intro p hp
    obtain ⟨s, s1, s2, e⟩ := hs.fwd p (by omega) hp
    rw [e]
    by_cases es : s = 0
    · subst es; rw [sw_l]; exact ⟨m, by omega, rfl⟩
    · rw [sw_o _ _ _ _ es (by omega)]; exact ⟨s, by omega, rfl⟩
  refine ⟨hp, fun p q h1 h2 h3 => ?_, fun p q h1 h2 h3 => ?_⟩
  · obtain ⟨r, hr, er⟩ := e2 p h1
    rw [er]
    by_cases eq : q = m
    · subst eq; rw [e1]; exact h.hp.max r hr
    · rw [e0 q (by omega)]; exact h.le r q hr (by omega) h3
  · by_cases ep : p = m
    · subst ep
      by_cases eq : q = p
      · subst eq; exact Int.le_refl _
      · rw [e1, e0 q (by omega)]; exact h.le 0 q (by omega) (by omega) h3
    · rw [e0 p (by omega), e0 q (by omega)]; exact h.srt p q (by omega) h2 h3

theorem R64.swapd {w0 w : World} {B off n : Nat} {G : Nat → Int} (h : R64 w0 w B off n G) (i j : Nat) (hi : i < n) (hj : j < n) :
    R64 w0 ((w.setCell ⟨B, off + i, none⟩ (.int .u64 (G j))).setCell ⟨B, off + j, none⟩ (.int .u64 (G i))).drew B off n (sw G i j) := h.swap 1 i j hi hj
set_option maxRecDepth 100000 in
set_option maxHeartbeats 1600000 in
theorem sift62 (B off n cap lo hi F : Nat) (G : Nat → Int) (w : World) (h : Hid (R64 w w B off n G)) (hlo : lo ≤ hi) (hb : F + hi ≤ n) (hn : n ≤ 100000) (hp : Hid (Hp (lo + 1) hi (shf F G))) :
    Calls Ybad.prog 62 #[.slice (some ⟨B, off, none⟩) n cap, .int .i64 lo, .int .i64 hi, .int .i64 F] w fun e w' => e = .returned (.tuple #[]) ∧ ∃ G', Hid (R64 w w' B off n G') ∧ Hid (Same F (F + hi) G G') ∧ Hid (Hp lo hi (shf F G')) := by
  go_enter Ybad.func62, Ybad.ntmps62
  go_wp2
  go_loopw [8] (fun vi wr => ∃ (r : Nat) (G' : Nat → Int), vi = .int .i64 r ∧ r ≤ hi ∧ Hid (R64 w wr B off n G') ∧ Hid (Same F (F + hi) G G') ∧ Hid (HpR lo r hi (shf F G'))) (fun vi _ => hi - (intOf vi).toNat)
  case atStart => exact ⟨lo, G, rfl, hlo, h, Same.refl _ _ _, HpR.start hp.out⟩
  case round =>
    obtain ⟨r, G1, rfl, hrh, hr, hs, hq⟩ := hrel
    have hcw := hr.out.cell
    have hfw := hr.out.frz
    by_cases h0 : hi ≤ 2 * r + 1
    · have h0z : (hi : Int) ≤ 2 * (r : Int) + 1 := by omega
      have hx : Hid (Hp lo hi (shf F G1)) := hq.out.leaf h0
      go_wp2
      go_end0
      exact ⟨rfl, G1, hr, hs, hx⟩
    · have h0z : ¬ ((hi : Int) ≤ 2 * (r : Int) + 1) := by omega
      by_cases h1 : 2 * r + 2 < hi
      · have h1z : 2 * (r : Int) + 1 + 1 < (hi : Int) := by omega
        go_wp2_with fail
        go_big_quiet (first | (go_at_call 41; refine Calls.quiet_of_same (less41 _ _ _)))
        go_wp2_with fail
        · have hL : G1 (F + (2 * r + 1)) < G1 (F + (2 * r + 2)) := by
            have : G1 (F + 2 * r + 1) < G1 (F + 2 * r + 2) := by assumption
            simpa [Nat.add_assoc] using this
          revert nq; intro nq1
          have hcw2 : ∀ t, t < n → (wr.drewN nq1).cell? ⟨B, off + t, none⟩ = some (.int .u64 (G1 t)) := hcw
          have hfw2 : ∀ t, t < n → (wr.drewN nq1).frozen? ⟨B, off + t, none⟩ = false := hfw
          have R2 : Hid (R64 w (wr.drewN nq1) B off n G1) := hr.out.drewN _
          clear hcw hfw hr
          generalize wr.drewN nq1 = wr2 at hcw2 hfw2 R2 ⊢
          go_big_quiet (first | (go_at_call 41; refine Calls.quiet_of_same (less41 _ _ _)))
          go_wp2_with fail
          · have hS : ¬ G1 (F + r) < G1 (F + (2 * r + 2)) := by
              have : (!decide (G1 (F + r) < G1 (F + 2 * r + 2))) = true := by assumption
              simpa [Nat.add_assoc] using this
            have hx : Hid (Hp lo hi (shf F G1)) := hq.out.fit (by unfold HpAt shf; omega)
            (try simp only [Exit.inBlock, Exit.then]); refine bodyPost_ret (results_none rfl _ _ _) rfl ?_
            exact ⟨rfl, G1, R2.out.drewN _, hs, hx⟩
          · have hG : G1 (F + r) < G1 (F + (2 * r + 2)) := by
              have : (!decide (G1 (F + r) < G1 (F + 2 * r + 2))) = false := by assumption
              simpa [Nat.add_assoc] using this
            have hcw3 : ∀ t, t < n → (wr2.drewN nq).cell? ⟨B, off + t, none⟩ = some (.int .u64 (G1 t)) := hcw2
            have hfw3 : ∀ t, t < n → (wr2.drewN nq).frozen? ⟨B, off + t, none⟩ = false := hfw2
            have R3 : Hid (R64 w (wr2.drewN nq) B off n G1) := R2.out.drewN _
            have hnx : Hid (HpR lo (2 * r + 2) hi (shf F (sw G1 (F + r) (F + (2 * r + 2))))) := by
              rw [sw_shift]; exact hq.out.down (by omega) (by omega) (by unfold shf; omega) (by unfold shf; omega) hG
            have hsx : Hid (Same F (F + hi) G (sw G1 (F + r) (F + (2 * r + 2)))) := hs.out.trans (Same.sw G1 (by omega) (by omega) (by omega) (by omega))
            clear hcw2 hfw2 R2
            generalize wr2.drewN nq = wr3 at hcw3 hfw3 R3 ⊢
            go_region
            go_wp2
            go_roundw
            case rel => exact ⟨2 * r + 2, _, by simp <;> omega, by omega, by have := R3.out.swapd (F + r) (F + (2 * r + 2)) (by omega) (by omega); simp only [Nat.add_assoc] at this ⊢; exact this, hsx, hnx⟩
            case measure => simp [intOf]; omega
        · have hL : ¬ G1 (F + (2 * r + 1)) < G1 (F + (2 * r + 2)) := by
            have : G1 (F + 2 * r + 2) ≤ G1 (F + 2 * r + 1) := by assumption
            simpa [Nat.add_assoc] using this
          revert nq; intro nq1
          have hcw2 : ∀ t, t < n → (wr.drewN nq1).cell? ⟨B, off + t, none⟩ = some (.int .u64 (G1 t)) := hcw
          have hfw2 : ∀ t, t < n → (wr.drewN nq1).frozen? ⟨B, off + t, none⟩ = false := hfw
          have R2 : Hid (R64 w (wr.drewN nq1) B off n G1) := hr.out.drewN _
          clear hcw hfw hr
          generalize wr.drewN nq1 = wr2 at hcw2 hfw2 R2 ⊢
          go_big_quiet (first | (go_at_call 41; refine Calls.quiet_of_same (less41 _ _ _)))
          go_wp2_with fail
          · have hS : ¬ G1 (F + r) < G1 (F + (2 * r + 1)) := by
              have : (!decide (G1 (F + r) < G1 (F + 2 * r + 1))) = true := by assumption
              simpa [Nat.add_assoc] using this
            have hx : Hid (Hp lo hi (shf F G1)) := hq.out.fit (by unfold HpAt shf; omega)
            (try simp only [Exit.inBlock, Exit.then]); refine bodyPost_ret (results_none rfl _ _ _) rfl ?_
            exact ⟨rfl, G1, R2.out.drewN _, hs, hx⟩
          · have hG : G1 (F + r) < G1 (F + (2 * r + 1)) := by
              have : (!decide (G1 (F + r) < G1 (F + 2 * r + 1))) = false := by assumption
              simpa [Nat.add_assoc] using this
            have hcw3 : ∀ t, t < n → (wr2.drewN nq).cell? ⟨B, off + t, none⟩ = some (.int .u64 (G1 t)) := hcw2
            have hfw3 : ∀ t, t < n → (wr2.drewN nq).frozen? ⟨B, off + t, none⟩ = false := hfw2
            have R3 : Hid (R64 w (wr2.drewN nq) B off n G1) := R2.out.drewN _
            have hnx : Hid (HpR lo (2 * r + 1) hi (shf F (sw G1 (F + r) (F + (2 * r + 1))))) := by
              rw [sw_shift]; exact hq.out.down (by omega) (by omega) (by unfold shf; omega) (by unfold shf; omega) hG
            have hsx : Hid (Same F (F + hi) G (sw G1 (F + r) (F + (2 * r + 1)))) := hs.out.trans (Same.sw G1 (by omega) (by omega) (by omega) (by omega))
            clear hcw2 hfw2 R2
            generalize wr2.drewN nq = wr3 at hcw3 hfw3 R3 ⊢
            go_region
            go_wp2
            go_roundw
            case rel => exact ⟨2 * r + 1, _, by simp <;> omega, by omega, by have := R3.out.swapd (F + r) (F + (2 * r + 1)) (by omega) (by omega); simp only [Nat.add_assoc] at this ⊢; exact this, hsx, hnx⟩
            case measure => simp [intOf]; omega
      · have h1z : decide (2 * (r : Int) + 1 + 1 < (hi : Int)) = false := decide_eq_false (by omega)
        go_wp2_with fail
        go_big_quiet (first | (go_at_call 41; refine Calls.quiet_of_same (less41 _ _ _)))
        go_wp2_with fail
        revert nq; intro nq1
        have hcw2 : ∀ t, t < n → (wr.drewN nq1).cell? ⟨B, off + t, none⟩ = some (.int .u64 (G1 t)) := hcw
        have hfw2 : ∀ t, t < n → (wr.drewN nq1).frozen? ⟨B, off + t, none⟩ = false := hfw
        have R2 : Hid (R64 w (wr.drewN nq1) B off n G1) := hr.out.drewN _
        clear hcw hfw hr
        generalize wr.drewN nq1 = wr2 at hcw2 hfw2 R2 ⊢
        go_big_quiet (first | (go_at_call 41; refine Calls.quiet_of_same (less41 _ _ _)))
        go_wp2_with fail
        · have hS : ¬ G1 (F + r) < G1 (F + (2 * r + 1)) := by
            have : (!decide (G1 (F + r) < G1 (F + 2 * r + 1))) = true := by assumption
            simpa [Nat.add_assoc] using this
          have hx : Hid (Hp lo hi (shf F G1)) := hq.out.fit (by unfold HpAt shf; omega)
          (try simp only [Exit.inBlock, Exit.then]); refine bodyPost_ret (results_none rfl _ _ _) rfl ?_
          exact ⟨rfl, G1, R2.out.drewN _, hs, hx⟩
        · have hG : G1 (F + r) < G1 (F + (2 * r + 1)) := by
            have : (!decide (G1 (F + r) < G1 (F + 2 * r + 1))) = false := by assumption
            simpa [Nat.add_assoc] using this
          have hcw3 : ∀ t, t < n → (wr2.drewN nq).cell? ⟨B, off + t, none⟩ = some (.int .u64 (G1 t)) := hcw2
          have hfw3 : ∀ t, t < n → (wr2.drewN nq).frozen? ⟨B, off + t, none⟩ = false := hfw2
          have R3 : Hid (R64 w (wr2.drewN nq) B off n G1) := R2.out.drewN _
          have hnx : Hid (HpR lo (2 * r + 1) hi (shf F (sw G1 (F + r) (F + (2 * r + 1))))) := by
            rw [sw_shift]; exact hq.out.down (by omega) (by omega) (by unfold shf; omega) (by unfold shf; omega) hG
          have hsx : Hid (Same F (F + hi) G (sw G1 (F + r) (F + (2 * r + 1)))) := hs.out.trans (Same.sw G1 (by omega) (by omega) (by omega) (by omega))
          clear hcw2 hfw2 R2
          generalize wr2.drewN nq = wr3 at hcw3 hfw3 R3 ⊢
          go_region
          go_wp2
          go_roundw
          case rel => exact ⟨2 * r + 1, _, by simp <;> omega, by omega, by have := R3.out.swapd (F + r) (F + (2 * r + 1)) (by omega) (by omega); simp only [Nat.add_assoc] at this ⊢; exact this, hsx, hnx⟩
          case measure => simp [intOf]; omega

end Go.Proofs.YbulkbnryDoor
