import Derived.Test.YbulkbnryDoorHeap
namespace Go.Proofs.YbulkbnryDoor
open Go.RowKit
set_option linter.unusedSimpArgs false
set_option linter.unusedVariables false

theorem HSt.done {F hi : Nat} {G : Nat → Int} (h : HSt 0 hi (shf F G)) : Srt F (F + hi) G := by
  intro i j h1 h2 h3
  have := h.srt (i - F) (j - F) (by omega) (by omega) (by omega)
  unfold shf at this
  rw [show F + (i - F) = i by omega, show F + (j - F) = j by omega] at this
  exact this
theorem hp_none {q hi : Nat} (h : hi ≤ 2 * q + 1) (H : Nat → Int) : Hp q hi H := fun k hk => ⟨fun _ => by omega, fun _ => by omega⟩
set_option maxRecDepth 100000 in
set_option maxHeartbeats 1600000 in
theorem heap36 (B off n cap a b hi : Nat) (hz : (b : Int) - (a : Int) = (hi : Int)) (G : Nat → Int) (w : World) (h : Hid (R64 w w B off n G)) (hab : 0 < hi) (hb : b ≤ n) (hn : n ≤ 100000) :
    Calls Ybad.prog 36 #[.slice (some ⟨B, off, none⟩) n cap, .int .i64 a, .int .i64 b] w fun e w' => e = .returned (.tuple #[]) ∧ ∃ G', Hid (R64 w w' B off n G') ∧ Hid (Same a (a + hi) G G') ∧ Hid (Srt a (a + hi) G') := by
  have hz2 : ((hi : Int) - 1).tdiv 2 = (((hi - 1) / 2 : Nat) : Int) := by
    rw [show (hi : Int) - 1 = ((hi - 1 : Nat) : Int) by omega]; rfl
  go_enter Ybad.func36, Ybad.ntmps36
  go_wp2
  go_loopw [9] (fun vi wr => ∃ (G' : Nat → Int), Hid (R64 w wr B off n G') ∧ Hid (Same a (a + hi) G G') ∧ ((∃ m : Nat, vi = .int .i64 m ∧ m < hi ∧ Hid (Hp (m + 1) hi (shf a G'))) ∨ (vi = .int .i64 (-1) ∧ Hid (Hp 0 hi (shf a G'))))) (fun vi _ => (intOf vi + 1).toNat)
  case atStart => exact ⟨G, h, Same.refl _ _ _, .inl ⟨(hi - 1) / 2, by simp [hz, hz2], by omega, hp_none (by omega) _⟩⟩
  case round =>
    obtain ⟨G1, hr, hs, ⟨m, rfl, hm, hp⟩ | ⟨rfl, hp⟩⟩ := hrel
    · go_wp2_with (go_at_call 62; refine (sift62 B off n cap m hi a G1 _ (hr.out.start) (by omega) (by omega) hn hp).mono ?_; rintro e w2 ⟨rfl, G2, r2, s2, p2⟩)
      go_roundw
      case rel =>
        refine ⟨G2, hr.out.trans r2.out, hs.out.trans s2.out, ?_⟩
        by_cases e : m = 0
        · subst e; exact .inr ⟨by simp, p2⟩
        · refine .inl ⟨m - 1, by congr 1; omega, by omega, ?_⟩
          rw [show m - 1 + 1 = m by omega]; exact p2
      case measure => simp [intOf]
    · go_wp2
      go_loopw [10] (fun vi wr => ∃ (G' : Nat → Int), Hid (R64 w wr B off n G') ∧ Hid (Same a (a + hi) G G') ∧ ((∃ m : Nat, vi = .int .i64 m ∧ m < hi ∧ Hid (HSt (m + 1) hi (shf a G'))) ∨ (vi = .int .i64 (-1) ∧ Hid (HSt 0 hi (shf a G'))))) (fun vi _ => (intOf vi + 1).toNat)
      case atStart => exact ⟨G1, hr, hs, .inl ⟨hi - 1, by congr 1; omega, by omega, by rw [show hi - 1 + 1 = hi by omega]; exact HSt.start hp.out⟩⟩
      case round =>
        clear hr hs hp
        obtain ⟨G2, hr, hs, ⟨m, rfl, hm, hp⟩ | ⟨rfl, hp⟩⟩ := hrel
        · have hcw := hr.out.cell
          have hfw := hr.out.frz
          have hpl : Hid (Hp 1 m (shf a (sw G2 a (a + m)))) := by
            have := hp.out.pull; rw [← sw_shift] at this; exact this
          have hsx : Hid (Same a (a + hi) G (sw G2 a (a + m))) := hs.out.trans (Same.sw G2 (by omega) (by omega) (by omega) (by omega))
          have r3 : Hid (R64 w ((wr.setCell ⟨B, off + a, none⟩ (.int .u64 (G2 (a + m)))).setCell ⟨B, off + (a + m), none⟩ (.int .u64 (G2 a))).drew B off n (sw G2 a (a + m))) := hr.out.swapd a (a + m) (by omega) (by omega)
          have hnx : ∀ G3 : Nat → Int, Same a (a + m) (sw G2 a (a + m)) G3 → Hp 0 m (shf a G3) → HSt m hi (shf a G3) := fun G3 s3 p3 => hp.out.next hm (by have := s3.shift; rw [← sw_shift]; exact this) p3
          have hnx' : Hid (∀ G3 : Nat → Int, Same a (a + m) (sw G2 a (a + m)) G3 → Hp 0 m (shf a G3) → HSt m hi (shf a G3)) := hnx
          clear hnx
          by_cases em : m = 0
          · subst em
            go_wp2_with fail
            go_region
            go_wp2_with (go_at_call 62; refine (sift62 B off n cap 0 0 a _ _ (r3.out.start) (by omega) (by omega) hn hpl).mono ?_; rintro e w2 ⟨rfl, G3, r4, s4, p4⟩)
            go_roundw
            case rel =>
              exact ⟨G3, r3.out.trans r4.out, hsx.out.trans (s4.out.mono (by omega) (by omega)), .inr ⟨by simp, hnx'.out G3 s4.out p4.out⟩⟩
            case measure => simp [intOf]
          · have em' : 0 < m := by omega
            go_wp2_with fail
            go_region
            go_wp2_with (go_at_call 62; refine (sift62 B off n cap 0 m a _ _ (r3.out.start) (by omega) (by omega) hn hpl).mono ?_; rintro e w2 ⟨rfl, G3, r4, s4, p4⟩)
            go_roundw
            case rel =>
              refine ⟨G3, r3.out.trans r4.out, hsx.out.trans (s4.out.mono (by omega) (by omega)), .inl ⟨m - 1, by congr 1; omega, by omega, ?_⟩⟩
              rw [show m - 1 + 1 = m by omega]; exact hnx'.out G3 s4.out p4.out
            case measure => simp [intOf]
        · have hx : Hid (Srt a (a + hi) G2) := hp.out.done
          go_wp2
          go_end0
          exact ⟨rfl, G2, hr, hs, hx⟩
end Go.Proofs.YbulkbnryDoor
