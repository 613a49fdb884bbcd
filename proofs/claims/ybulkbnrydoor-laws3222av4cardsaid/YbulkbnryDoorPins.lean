import Derived.Test.YbulkbnryDoorHeap
import Derived.Deep.CutRange
import Derived.Deep.LoopGhost
namespace Go.Proofs.YbulkbnryDoor
open Go.RowKit
set_option linter.unusedSimpArgs false
set_option linter.unusedVariables false

/-- What stands ahead of a is not above what stands in [a, b). -/
def Lft (a b : Nat) (G : Nat → Int) : Prop := 0 < a → ∀ t, a ≤ t → t < b → G (a - 1) ≤ G t
theorem Lft.same {a b : Nat} {G G' : Nat → Int} (h : Lft a b G) (s : Same a b G G') : Lft a b G' := by
  intro h0 t h1 h2
  rw [s.out (a - 1) (by omega)]
  exact s.all (P := fun x => G (a - 1) ≤ x) (h h0) t h1 h2
theorem Srt.snoc {a i : Nat} {G : Nat → Int} (h : Srt a i G) (hi : a < i) (hl : ¬ G i < G (i - 1)) : Srt a (i + 1) G := by
  intro p q h1 h2 h3
  by_cases e : q = i
  · subst e
    by_cases e2 : p = q
    · subst e2; exact Int.le_refl _
    · have := h p (q - 1) h1 (by omega) (by omega)
      omega
  · exact h p q h1 h2 (by omega)
theorem Srt.cut {a i j : Nat} {G : Nat → Int} (h : Srt a i G) (hj : j ≤ i) : Srt a j G := fun p q h1 h2 h3 => h p q h1 h2 (by omega)
theorem Srt.congr {a i : Nat} {G G' : Nat → Int} (h : Srt a i G) (e : ∀ t, t < i → G' t = G t) : Srt a i G' := fun p q h1 h2 h3 => by rw [e p (by omega), e q h3]; exact h p q h1 h2 h3
set_option maxRecDepth 100000 in
set_option maxHeartbeats 3200000 in
theorem pins40 (B off n cap a b : Nat) (G : Nat → Int) (w : World) (h : Hid (R64 w w B off n G)) (hab : a < b) (hb : b ≤ n) (hn : n ≤ 100000) (hL : Hid (Lft a b G)) :
    Calls Ybad.prog 40 #[.slice (some ⟨B, off, none⟩) n cap, .int .i64 a, .int .i64 b] w fun e w' => ∃ (c : Bool) (G' : Nat → Int), e = .returned (.bool c) ∧ Hid (R64 w w' B off n G') ∧ Hid (Same a b G G') ∧ Hid (c = true → Srt a b G') := by
  go_enter Ybad.func40, Ybad.ntmps40
  go_wp2
  go_loopg [7, 8] 5 (fun k vi vj wr => ∃ (i c : Nat) (G1 : Nat → Int), vi = .int .i64 i ∧ vj = .int .i64 c ∧ a < i ∧ i ≤ b ∧ c ≤ 5 ∧ 5 - c ≤ k ∧ Hid (R64 w wr B off n G1) ∧ Hid (Same a b G G1) ∧ Hid (Srt a i G1))
  case atStart => exact ⟨a + 1, 0, G, by simp, by simp, by omega, by omega, by omega, by omega, h, Same.refl _ _ _, Srt.one _ _⟩
  case round =>
    clear h
    obtain ⟨i, c, G1, rfl, rfl, hai, hib, hc5, hk, hr, hs, hso⟩ := hrel
    by_cases hc : c < 5
    · go_wp2_with fail
      rw [show decide ((c : Int) < 5) = true from decide_eq_true (by omega)]
      go_loopg [7] (b - i) (fun k vx wr => ∃ x : Nat, vx = .int .i64 x ∧ a < x ∧ x ≤ b ∧ b - x ≤ k ∧ Hid (R64 w wr B off n G1) ∧ Hid (Srt a x G1))
      case atStart => exact ⟨i, rfl, hai, hib, Nat.le_refl _, hr, hso⟩
      case round =>
        clear hr hso
        obtain ⟨x, rfl, hx1, hx2, hk2, hr, hso⟩ := hrel
        have hcw := hr.out.cell
        have hfw := hr.out.frz
        go_upto_region 5 with fail
        go_cut [32] from 17 to 34 (fun cc wx => Hid (R64 w wx B off n G1) ∧ ((cc = .bool true ∧ x < b ∧ Hid (¬ G1 x < G1 (x - 1))) ∨ (cc = .bool false ∧ Hid (x < b → G1 x < G1 (x - 1)))))
        case first =>
          by_cases hxj : x < b
          · by_cases hl : G1 x < G1 (x - 1)
            · go_quiet (first | (go_at_call 41; refine Calls.quiet_of_same (less41 _ _ _)))
              go_wp2
              go_meet
              exact ⟨hr.out.drewN _, .inr ⟨rfl, fun _ => hl⟩⟩
            · have hd : decide (G1 x < G1 (x - 1)) = false := decide_eq_false hl
              go_quiet (first | (go_at_call 41; refine Calls.quiet_of_same (less41 _ _ _)))
              go_wp2
              go_meet
              exact ⟨hr.out.drewN _, .inl ⟨rfl, hxj, hl⟩⟩
          · have hd : decide ((x : Int) < (b : Int)) = false := decide_eq_false (by omega)
            go_quiet (first | (go_at_call 41; refine Calls.quiet_of_same (less41 _ _ _)))
            go_wp2
            go_meet
            exact ⟨hr.out.drewN _, .inr ⟨rfl, fun hh => absurd hh hxj⟩⟩
        case rest =>
          clear hr hcw hfw
          obtain ⟨hr, ⟨rfl, hxj, hl⟩ | ⟨rfl, hst⟩⟩ := hcut
          · have hp2 : Hid (Srt a (x + 1) G1) := hso.out.snoc hx1 hl.out
            go_wp2
            go_roundg (b - (x + 1))
            case measure => omega
            case rel => exact ⟨x + 1, by simp <;> omega, by omega, by omega, by omega, hr, hp2⟩
          · clear hk2
            clear hai hib
            revert x
            intro i hai hib hso hst
            by_cases hend : i = b
            · subst hend
              go_wp2
              go_ret
              exact ⟨true, G1, rfl, hr, hs, fun _ => hso.out⟩
            · have hib2 : i < b := by omega
              by_cases h50 : b - a < 50
              · have h50z : (b : Int) - (a : Int) < 50 := by omega
                go_wp2
                go_ret
                exact ⟨false, G1, rfl, hr, hs, fun hh => by cases hh⟩
              · have h50z : ¬ ((b : Int) - (a : Int) < 50) := by omega
                have hcw := hr.out.cell
                have hfw := hr.out.frz
                have hs2 : Hid (Same a b G (sw G1 i (i - 1))) := hs.out.trans (Same.sw G1 (by omega) (by omega) (by omega) (by omega))
                have hr2 : Hid (R64 w ((wc.setCell ⟨B, off + i, none⟩ (.int .u64 (G1 (i - 1)))).setCell ⟨B, off + (i - 1), none⟩ (.int .u64 (G1 i))).drew B off n (sw G1 i (i - 1))) := hr.out.swapd i (i - 1) (by omega) (by omega)
                have hin : Hid (Ins a (i - 1) (i - 1) (sw G1 i (i - 1))) := Ins.start ((hso.out.cut (by omega)).congr (fun t ht => sw_o _ _ _ _ (by omega) (by omega)))
                clear hs hso hst hr
                go_wp2_with fail
                go_region
                generalize ((wc.setCell ⟨B, off + i, none⟩ (.int .u64 (G1 (i - 1)))).setCell ⟨B, off + (i - 1), none⟩ (.int .u64 (G1 i))).drew = W2 at hr2 ⊢
                clear hcw hfw
                by_cases hia : 2 ≤ i - a
                · have hiz : 2 ≤ (i : Int) - (a : Int) := by omega
                  go_wp2_with fail
                  go_loopg [9] i (fun k vj wr => ∃ (j : Nat) (G2 : Nat → Int), vj = .int .i64 j ∧ a ≤ j ∧ j ≤ i - 1 ∧ j ≤ k ∧ Hid (R64 w wr B off n G2) ∧ Hid (Same a b G G2) ∧ Hid (Ins a (i - 1) j G2))
                  case atStart => exact ⟨i - 1, _, by congr 1; omega, by omega, by omega, by omega, hr2, hs2, hin⟩
                  case round =>
                    clear hr2 hs2 hin
                    obtain ⟨j, G2, rfl, haj, hji, hk2, hr2, hs2, hin⟩ := hrel
                    have hcw := hr2.out.cell
                    have hfw := hr2.out.frz
                    by_cases hj1 : 1 ≤ j
                    · by_cases hja : a < j
                      · by_cases hl : G2 j < G2 (j - 1)
                        · have hsx : Hid (Same a b G (sw G2 j (j - 1))) := hs2.out.trans (Same.sw G2 (by omega) (by omega) (by omega) (by omega))
                          have hinx : Hid (Ins a (i - 1) (j - 1) (sw G2 j (j - 1))) := hin.out.step hja hji hl
                          clear hs2 hin
                          go_wp2_with fail
                          go_quiet (first | (go_at_call 41; refine Calls.quiet_of_same (less41 _ _ _)))
                          go_wp2
                          go_region
                          all_goals go_wp2
                          go_roundg (j - 1)
                          case measure => omega
                          case rel => exact ⟨j - 1, _, by congr 1; omega, by omega, by omega, by omega, hr2.out.swap _ j (j - 1) (by omega) (by omega), hsx.out, hinx.out⟩
                        · have hd : decide (G2 j < G2 (j - 1)) = false := decide_eq_false hl
                          have hso2 : Hid (Srt a i G2) := by
                            have := hin.out.stop hja (by omega)
                            rwa [show i - 1 + 1 = i by omega] at this
                          clear hin
                          by_cases hbi : 2 ≤ b - i
                          · have hbz : 2 ≤ (b : Int) - (i : Int) := by omega
                            go_wp2_with fail
                            go_quiet (first | (go_at_call 41; refine Calls.quiet_of_same (less41 _ _ _)))
                            go_wp2_with fail
                            go_loopg [10] (b - i) (fun k vj wr => ∃ (j : Nat) (G3 : Nat → Int), vj = .int .i64 j ∧ i < j ∧ j ≤ b ∧ b - j ≤ k ∧ Hid (R64 w wr B off n G3) ∧ Hid (Same a b G G3) ∧ Hid (Srt a i G3))
                            case atStart => exact ⟨i + 1, _, by simp, by omega, by omega, by omega, (hr2.out.drewN _), hs2, hso2⟩
                            case round =>
                              obtain ⟨j, G3, rfl, hij, hjb, hk3, hr3, hs3, hso3⟩ := hrel
                              have hcw := hr3.out.cell
                              have hfw := hr3.out.frz
                              by_cases hj : j < b
                              · by_cases hl : G3 j < G3 (j - 1)
                                · have hsx : Hid (Same a b G (sw G3 j (j - 1))) := hs3.out.trans (Same.sw G3 (by omega) (by omega) (by omega) (by omega))
                                  have hsox : Hid (Srt a i (sw G3 j (j - 1))) := hso3.out.congr (fun t ht => sw_o _ _ _ _ (by omega) (by omega))
                                  go_wp2_with fail
                                  go_quiet (first | (go_at_call 41; refine Calls.quiet_of_same (less41 _ _ _)))
                                  go_wp2
                                  go_region
                                  all_goals go_wp2
                                  go_roundg (b - (j + 1))
                                  case measure => omega
                                  case rel => exact ⟨j + 1, _, by simp, by omega, by omega, by omega, hr3.out.swap _ j (j - 1) (by omega) (by omega), hsx.out, hsox.out⟩
                                · have hd : decide (G3 j < G3 (j - 1)) = false := decide_eq_false hl
                                  go_wp2_with fail
                                  go_quiet (first | (go_at_call 41; refine Calls.quiet_of_same (less41 _ _ _)))
                                  go_wp2
                                  go_roundg (5 - (c + 1))
                                  case measure => omega
                                  case rel => exact ⟨i, c + 1, G3, rfl, by simp, by omega, by omega, by omega, by omega, hr3.out.drewN _, hs3, hso3⟩
                              · go_wp2
                                go_roundg (5 - (c + 1))
                                case measure => omega
                                case rel => exact ⟨i, c + 1, G3, rfl, by simp, by omega, by omega, by omega, by omega, hr3, hs3, hso3⟩
                          · have hbz : ¬ (2 ≤ (b : Int) - (i : Int)) := by omega
                            go_wp2_with fail
                            go_quiet (first | (go_at_call 41; refine Calls.quiet_of_same (less41 _ _ _)))
                            go_wp2_with fail
                            go_roundg (5 - (c + 1))
                            case measure => omega
                            case rel => exact ⟨i, c + 1, _, rfl, by simp, by omega, by omega, by omega, by omega, (hr2.out.drewN _), hs2, hso2⟩
                      · have ea : j = a := by omega
                        have hl : ¬ G2 j < G2 (j - 1) := by
                          have := (hL.out.same hs2.out) (by omega) j (by omega) (by omega)
                          rw [← ea] at this
                          omega
                        have hd : decide (G2 j < G2 (j - 1)) = false := decide_eq_false hl
                        have hso2 : Hid (Srt a i G2) := by
                          have := (ea ▸ hin.out).low
                          rwa [show i - 1 + 1 = i by omega] at this
                        clear hin ea
                        by_cases hbi : 2 ≤ b - i
                        · have hbz : 2 ≤ (b : Int) - (i : Int) := by omega
                          go_wp2_with fail
                          go_quiet (first | (go_at_call 41; refine Calls.quiet_of_same (less41 _ _ _)))
                          go_wp2_with fail
                          go_loopg [10] (b - i) (fun k vj wr => ∃ (j : Nat) (G3 : Nat → Int), vj = .int .i64 j ∧ i < j ∧ j ≤ b ∧ b - j ≤ k ∧ Hid (R64 w wr B off n G3) ∧ Hid (Same a b G G3) ∧ Hid (Srt a i G3))
                          case atStart => exact ⟨i + 1, _, by simp, by omega, by omega, by omega, (hr2.out.drewN _), hs2, hso2⟩
                          case round =>
                            obtain ⟨j, G3, rfl, hij, hjb, hk3, hr3, hs3, hso3⟩ := hrel
                            have hcw := hr3.out.cell
                            have hfw := hr3.out.frz
                            by_cases hj : j < b
                            · by_cases hl : G3 j < G3 (j - 1)
                              · have hsx : Hid (Same a b G (sw G3 j (j - 1))) := hs3.out.trans (Same.sw G3 (by omega) (by omega) (by omega) (by omega))
                                have hsox : Hid (Srt a i (sw G3 j (j - 1))) := hso3.out.congr (fun t ht => sw_o _ _ _ _ (by omega) (by omega))
                                go_wp2_with fail
                                go_quiet (first | (go_at_call 41; refine Calls.quiet_of_same (less41 _ _ _)))
                                go_wp2
                                go_region
                                all_goals go_wp2
                                go_roundg (b - (j + 1))
                                case measure => omega
                                case rel => exact ⟨j + 1, _, by simp, by omega, by omega, by omega, hr3.out.swap _ j (j - 1) (by omega) (by omega), hsx.out, hsox.out⟩
                              · have hd : decide (G3 j < G3 (j - 1)) = false := decide_eq_false hl
                                go_wp2_with fail
                                go_quiet (first | (go_at_call 41; refine Calls.quiet_of_same (less41 _ _ _)))
                                go_wp2
                                go_roundg (5 - (c + 1))
                                case measure => omega
                                case rel => exact ⟨i, c + 1, G3, rfl, by simp, by omega, by omega, by omega, by omega, hr3.out.drewN _, hs3, hso3⟩
                            · go_wp2
                              go_roundg (5 - (c + 1))
                              case measure => omega
                              case rel => exact ⟨i, c + 1, G3, rfl, by simp, by omega, by omega, by omega, by omega, hr3, hs3, hso3⟩
                        · have hbz : ¬ (2 ≤ (b : Int) - (i : Int)) := by omega
                          go_wp2_with fail
                          go_quiet (first | (go_at_call 41; refine Calls.quiet_of_same (less41 _ _ _)))
                          go_wp2_with fail
                          go_roundg (5 - (c + 1))
                          case measure => omega
                          case rel => exact ⟨i, c + 1, _, rfl, by simp, by omega, by omega, by omega, by omega, (hr2.out.drewN _), hs2, hso2⟩
                    · have ea : j = a := by omega
                      have hso2 : Hid (Srt a i G2) := by
                        have := (ea ▸ hin.out).low
                        rwa [show i - 1 + 1 = i by omega] at this
                      clear hin ea
                      by_cases hbi : 2 ≤ b - i
                      · have hbz : 2 ≤ (b : Int) - (i : Int) := by omega
                        go_wp2_with fail
                        go_loopg [10] (b - i) (fun k vj wr => ∃ (j : Nat) (G3 : Nat → Int), vj = .int .i64 j ∧ i < j ∧ j ≤ b ∧ b - j ≤ k ∧ Hid (R64 w wr B off n G3) ∧ Hid (Same a b G G3) ∧ Hid (Srt a i G3))
                        case atStart => exact ⟨i + 1, _, by simp, by omega, by omega, by omega, hr2, hs2, hso2⟩
                        case round =>
                          obtain ⟨j, G3, rfl, hij, hjb, hk3, hr3, hs3, hso3⟩ := hrel
                          have hcw := hr3.out.cell
                          have hfw := hr3.out.frz
                          by_cases hj : j < b
                          · by_cases hl : G3 j < G3 (j - 1)
                            · have hsx : Hid (Same a b G (sw G3 j (j - 1))) := hs3.out.trans (Same.sw G3 (by omega) (by omega) (by omega) (by omega))
                              have hsox : Hid (Srt a i (sw G3 j (j - 1))) := hso3.out.congr (fun t ht => sw_o _ _ _ _ (by omega) (by omega))
                              go_wp2_with fail
                              go_quiet (first | (go_at_call 41; refine Calls.quiet_of_same (less41 _ _ _)))
                              go_wp2
                              go_region
                              all_goals go_wp2
                              go_roundg (b - (j + 1))
                              case measure => omega
                              case rel => exact ⟨j + 1, _, by simp, by omega, by omega, by omega, hr3.out.swap _ j (j - 1) (by omega) (by omega), hsx.out, hsox.out⟩
                            · have hd : decide (G3 j < G3 (j - 1)) = false := decide_eq_false hl
                              go_wp2_with fail
                              go_quiet (first | (go_at_call 41; refine Calls.quiet_of_same (less41 _ _ _)))
                              go_wp2
                              go_roundg (5 - (c + 1))
                              case measure => omega
                              case rel => exact ⟨i, c + 1, G3, rfl, by simp, by omega, by omega, by omega, by omega, hr3.out.drewN _, hs3, hso3⟩
                          · go_wp2
                            go_roundg (5 - (c + 1))
                            case measure => omega
                            case rel => exact ⟨i, c + 1, G3, rfl, by simp, by omega, by omega, by omega, by omega, hr3, hs3, hso3⟩
                      · have hbz : ¬ (2 ≤ (b : Int) - (i : Int)) := by omega
                        go_wp2_with fail
                        go_roundg (5 - (c + 1))
                        case measure => omega
                        case rel => exact ⟨i, c + 1, _, rfl, by simp, by omega, by omega, by omega, by omega, hr2, hs2, hso2⟩
                · have hiz : ¬ (2 ≤ (i : Int) - (a : Int)) := by omega
                  have hso2 : Hid (Srt a i (sw G1 i (i - 1))) := by
                    rw [show i = a + 1 by omega]; exact Srt.one _ _
                  clear hin
                  by_cases hbi : 2 ≤ b - i
                  · have hbz : 2 ≤ (b : Int) - (i : Int) := by omega
                    go_wp2_with fail
                    go_loopg [10] (b - i) (fun k vj wr => ∃ (j : Nat) (G3 : Nat → Int), vj = .int .i64 j ∧ i < j ∧ j ≤ b ∧ b - j ≤ k ∧ Hid (R64 w wr B off n G3) ∧ Hid (Same a b G G3) ∧ Hid (Srt a i G3))
                    case atStart => exact ⟨i + 1, _, by simp, by omega, by omega, by omega, hr2, hs2, hso2⟩
                    case round =>
                      obtain ⟨j, G3, rfl, hij, hjb, hk3, hr3, hs3, hso3⟩ := hrel
                      have hcw := hr3.out.cell
                      have hfw := hr3.out.frz
                      by_cases hj : j < b
                      · by_cases hl : G3 j < G3 (j - 1)
                        · have hsx : Hid (Same a b G (sw G3 j (j - 1))) := hs3.out.trans (Same.sw G3 (by omega) (by omega) (by omega) (by omega))
                          have hsox : Hid (Srt a i (sw G3 j (j - 1))) := hso3.out.congr (fun t ht => sw_o _ _ _ _ (by omega) (by omega))
                          go_wp2_with fail
                          go_quiet (first | (go_at_call 41; refine Calls.quiet_of_same (less41 _ _ _)))
                          go_wp2
                          go_region
                          all_goals go_wp2
                          go_roundg (b - (j + 1))
                          case measure => omega
                          case rel => exact ⟨j + 1, _, by simp, by omega, by omega, by omega, hr3.out.swap _ j (j - 1) (by omega) (by omega), hsx.out, hsox.out⟩
                        · have hd : decide (G3 j < G3 (j - 1)) = false := decide_eq_false hl
                          go_wp2_with fail
                          go_quiet (first | (go_at_call 41; refine Calls.quiet_of_same (less41 _ _ _)))
                          go_wp2
                          go_roundg (5 - (c + 1))
                          case measure => omega
                          case rel => exact ⟨i, c + 1, G3, rfl, by simp, by omega, by omega, by omega, by omega, hr3.out.drewN _, hs3, hso3⟩
                      · go_wp2
                        go_roundg (5 - (c + 1))
                        case measure => omega
                        case rel => exact ⟨i, c + 1, G3, rfl, by simp, by omega, by omega, by omega, by omega, hr3, hs3, hso3⟩
                  · have hbz : ¬ (2 ≤ (b : Int) - (i : Int)) := by omega
                    go_wp2_with fail
                    go_roundg (5 - (c + 1))
                    case measure => omega
                    case rel => exact ⟨i, c + 1, _, rfl, by simp, by omega, by omega, by omega, by omega, hr2, hs2, hso2⟩
    · go_wp2
      go_ret
      exact ⟨false, G1, rfl, hr, hs, fun hh => by cases hh⟩
end Go.Proofs.YbulkbnryDoor
