import Derived.Test.YbulkbnryDoorHeap
import Derived.Deep.CutRange
import Derived.Deep.LoopGhost
namespace Go.Proofs.YbulkbnryDoor
open Go.RowKit
set_option linter.unusedSimpArgs false
set_option linter.unusedVariables false

/-- Between the two ends of a partition. -/
structure Pst (a b i j : Nat) (G : Nat → Int) : Prop where
  lo : ∀ t, a < t → t < i → G t < G a
  hi : ∀ t, j < t → t < b → G a ≤ G t
/-- What stands at m parts the row. -/
structure Part (a m b : Nat) (G : Nat → Int) : Prop where
  lo : ∀ t, a ≤ t → t < m → G t ≤ G m
  hi : ∀ t, m < t → t < b → G m ≤ G t
theorem Pst.start (a b : Nat) (G : Nat → Int) : Pst a b (a + 1) (b - 1) G := ⟨fun t h1 h2 => by omega, fun t h1 h2 => by omega⟩
theorem Pst.up {a b i j : Nat} {G : Nat → Int} (h : Pst a b i j G) (hl : G i < G a) : Pst a b (i + 1) j G :=
  ⟨fun t h1 h2 => by
    by_cases e : t = i
    · subst e; exact hl
    · exact h.lo t h1 (by omega), h.hi⟩
theorem Pst.down {a b i j : Nat} {G : Nat → Int} (h : Pst a b i j G) (hl : ¬ G j < G a) : Pst a b i (j - 1) G :=
  ⟨h.lo, fun t h1 h2 => by
    by_cases e : t = j
    · subst e; omega
    · exact h.hi t (by omega) h2⟩
theorem Pst.swap {a b i j : Nat} {G : Nat → Int} (h : Pst a b i j G) (ha : a < i) (hij : i ≤ j) (h1 : ¬ G i < G a) (h2 : G j < G a) : Pst a b (i + 1) (j - 1) (sw G i j) ∧ i < j := by
  have hne : i ≠ j := fun e => by subst e; exact h1 h2
  have ea : sw G i j a = G a := sw_o _ _ _ _ (by omega) (by omega)
  refine ⟨⟨fun t h3 h4 => ?_, fun t h3 h4 => ?_⟩, by omega⟩
  · rw [ea]
    by_cases e : t = i
    · subst e; rw [sw_l]; exact h2
    · rw [sw_o _ _ _ _ e (by omega)]; exact h.lo t h3 (by omega)
  · rw [ea]
    by_cases e : t = j
    · subst e; rw [sw_r]; omega
    · rw [sw_o _ _ _ _ (by omega) e]; exact h.hi t (by omega) h4
theorem Pst.done {a b i j : Nat} {G : Nat → Int} (h : Pst a b i j G) (hij : i = j + 1) (ha : a ≤ j) : Part a j b (sw G j a) := by
  subst hij
  refine ⟨fun t h1 h2 => ?_, fun t h1 h2 => ?_⟩
  · rw [sw_l]
    by_cases e : t = a
    · subst e; rw [sw_r]; exact Int.le_of_lt (h.lo j h2 (by omega))
    · rw [sw_o _ _ _ _ (by omega) e]; exact Int.le_of_lt (h.lo t (by omega) (by omega))
  · rw [sw_l, sw_o _ _ _ _ (by omega) (by omega)]; exact h.hi t h1 h2
set_option maxRecDepth 100000 in
set_option maxHeartbeats 3200000 in
theorem part43 (B off n cap a b p : Nat) (G : Nat → Int) (w : World) (h : Hid (R64 w w B off n G)) (hap : a ≤ p) (hpb : p < b) (hb : b ≤ n) (hn : n ≤ 100000) :
    Calls Ybad.prog 43 #[.slice (some ⟨B, off, none⟩) n cap, .int .i64 a, .int .i64 b, .int .i64 p] w fun e w' => ∃ (m : Nat) (c : Bool) (G' : Nat → Int), e = .returned (.tuple #[.int .i64 m, .bool c]) ∧ a ≤ m ∧ m < b ∧ Hid (R64 w w' B off n G') ∧ Hid (Same a b G G') ∧ Hid (Part a m b G') := by
  have hcw := h.out.cell
  have hfw := h.out.frz
  have hr : Hid (R64 w ((w.setCell ⟨B, off + a, none⟩ (.int .u64 (G p))).setCell ⟨B, off + p, none⟩ (.int .u64 (G a))).drew B off n (sw G a p)) := h.out.swapd a p (by omega) (by omega)
  have hs : Hid (Same a b G (sw G a p)) := Same.sw G (by omega) (by omega) (by omega) (by omega)
  have hp : Hid (Pst a b (a + 1) (b - 1) (sw G a p)) := Pst.start _ _ _
  obtain ⟨v', hy'⟩ := cell?_setCell_some (w := w) (p := ⟨B, off + a, none⟩) (x := .int .u64 (G p)) (q := ⟨B, off + p, none⟩) (hcw p (by omega))
  go_enter Ybad.func43, Ybad.ntmps43
  go_wp2_with fail
  go_region
  generalize ((w.setCell ⟨B, off + a, none⟩ (.int .u64 (G p))).setCell ⟨B, off + p, none⟩ (.int .u64 (G a))).drew = W1 at hr ⊢
  clear hcw hfw hy' v' h
  generalize sw G a p = G1 at hr hs hp
  go_wp2
  rw [show ((a : Int) + 1) = ((a + 1 : Nat) : Int) by omega, show ((b : Int) - 1) = ((b - 1 : Nat) : Int) by omega]
  have hai : a < a + 1 := by omega
  have hij : a + 1 ≤ b - 1 + 1 := by omega
  have hjb : b - 1 < b := by omega
  generalize a + 1 = i at hp hai hij ⊢
  generalize b - 1 = j at hp hij hjb ⊢
  go_loopg [10] (j + 1 - i) (fun k vx wr => ∃ x : Nat, vx = .int .i64 x ∧ i ≤ x ∧ x ≤ j + 1 ∧ j + 1 - x ≤ k ∧ Hid (R64 w wr B off n G1) ∧ Hid (Pst a b x j G1))
  case atStart => exact ⟨i, rfl, Nat.le_refl _, hij, Nat.le_refl _, hr, hp⟩
  case round =>
    clear hr hp
    obtain ⟨x, rfl, hx1, hx2, hk, hr, hp⟩ := hrel
    have hcw := hr.out.cell
    have hfw := hr.out.frz
    go_upto_region 3 with fail
    go_cut [43] from 30 to 45 (fun c wx => Hid (R64 w wx B off n G1) ∧ ((c = .bool true ∧ x ≤ j ∧ Hid (G1 x < G1 a)) ∨ (c = .bool false ∧ Hid (x ≤ j → ¬ G1 x < G1 a))))
    case first =>
      by_cases hxj : x ≤ j
      · by_cases hl : G1 x < G1 a
        · go_quiet (first | (go_at_call 41; refine Calls.quiet_of_same (less41 _ _ _)))
          go_wp2
          go_meet
          exact ⟨hr.out.drewN _, .inl ⟨rfl, hxj, hl⟩⟩
        · have hd : decide (G1 x < G1 a) = false := decide_eq_false hl
          go_quiet (first | (go_at_call 41; refine Calls.quiet_of_same (less41 _ _ _)))
          go_wp2
          go_meet
          exact ⟨hr.out.drewN _, .inr ⟨rfl, fun _ => hl⟩⟩
      · have hd : decide ((x : Int) ≤ (j : Int)) = false := decide_eq_false (by omega)
        go_quiet (first | (go_at_call 41; refine Calls.quiet_of_same (less41 _ _ _)))
        go_wp2
        go_meet
        exact ⟨hr.out.drewN _, .inr ⟨rfl, fun hh => absurd hh hxj⟩⟩
    case rest =>
      clear hr hcw hfw
      obtain ⟨hr, ⟨rfl, hxj, hl⟩ | ⟨rfl, hst⟩⟩ := hcut
      · have hp2 : Hid (Pst a b (x + 1) j G1) := hp.out.up hl.out
        go_wp2
        go_roundg (j - x)
        case measure => omega
        case rel => exact ⟨x + 1, by simp <;> omega, by omega, by omega, by omega, hr, hp2⟩
      · clear hk
        revert x
        intro i2 hii hij hp hst
        have hai2 : a < i2 := by omega
        clear hai
        go_wp2_with fail
        go_loopg [11] (j + 1 - i2) (fun k vx wr => ∃ x : Nat, vx = .int .i64 x ∧ x ≤ j ∧ i2 ≤ x + 1 ∧ x + 1 - i2 ≤ k ∧ Hid (R64 w wr B off n G1) ∧ Hid (Pst a b i2 x G1))
        case atStart => exact ⟨j, rfl, Nat.le_refl _, hij, Nat.le_refl _, hr, hp⟩
        case round =>
          clear hr hp
          obtain ⟨x, rfl, hx1, hx2, hk, hr, hp⟩ := hrel
          have hcw := hr.out.cell
          have hfw := hr.out.frz
          go_upto_region 5 with fail
          go_cut [60] from 46 to 62 (fun c wx => Hid (R64 w wx B off n G1) ∧ ((c = .bool true ∧ i2 ≤ x ∧ Hid (¬ G1 x < G1 a)) ∨ (c = .bool false ∧ Hid (i2 ≤ x → G1 x < G1 a))))
          case first =>
            by_cases hxj : i2 ≤ x
            · by_cases hl : G1 x < G1 a
              · go_quiet (first | (go_at_call 41; refine Calls.quiet_of_same (less41 _ _ _)))
                go_wp2
                go_meet
                exact ⟨hr.out.drewN _, .inr ⟨rfl, fun _ => hl⟩⟩
              · have hd : decide (G1 x < G1 a) = false := decide_eq_false hl
                go_quiet (first | (go_at_call 41; refine Calls.quiet_of_same (less41 _ _ _)))
                go_wp2
                go_meet
                exact ⟨hr.out.drewN _, .inl ⟨rfl, hxj, hl⟩⟩
            · have hd : decide ((i2 : Int) ≤ (x : Int)) = false := decide_eq_false (by omega)
              go_quiet (first | (go_at_call 41; refine Calls.quiet_of_same (less41 _ _ _)))
              go_wp2
              go_meet
              exact ⟨hr.out.drewN _, .inr ⟨rfl, fun hh => absurd hh hxj⟩⟩
          case rest =>
            clear hr hcw hfw
            obtain ⟨hr, ⟨rfl, hxj, hl⟩ | ⟨rfl, hst2⟩⟩ := hcut
            · have hp2 : Hid (Pst a b i2 (x - 1) G1) := hp.out.down hl.out
              go_wp2
              go_roundg (x - i2)
              case measure => omega
              case rel => exact ⟨x - 1, by simp <;> omega, by omega, by omega, by omega, hr, hp2⟩
            · clear hk
              have hst2o : i2 ≤ x → G1 x < G1 a := fun hh => hst2.out hh
              by_cases hxj : i2 ≤ x
              · have hsw := hp.out.swap (by omega) hxj (by have := hst.out (by omega); omega) (hst2o hxj)
                have hlt : i2 < x := hsw.2
                have hp2 : Hid (Pst a b (i2 + 1) (x - 1) (sw G1 i2 x)) := hsw.1
                have hs2 : Hid (Same a b G (sw G1 i2 x)) := hs.out.trans (Same.sw G1 (by omega) (by omega) (by omega) (by omega))
                have hr2 : Hid (R64 w ((wc.setCell ⟨B, off + i2, none⟩ (.int .u64 (G1 x))).setCell ⟨B, off + x, none⟩ (.int .u64 (G1 i2))).drew B off n (sw G1 i2 x)) := hr.out.swapd i2 x (by omega) (by omega)
                have hcw := hr.out.cell
                have hfw := hr.out.frz
                clear hsw hs hp hr hst hst2 hst2o
                go_wp2_with fail
                go_region
                go_wp2
                rw [show decide (x < i2) = false from decide_eq_false (by omega)]
                go_loopg [10, 11] (b - a) (fun k vi vj wr => ∃ (i j : Nat) (G1 : Nat → Int), vi = .int .i64 i ∧ vj = .int .i64 j ∧ a < i ∧ i ≤ j + 1 ∧ j < b ∧ j + 1 - i ≤ k ∧ Hid (R64 w wr B off n G1) ∧ Hid (Same a b G G1) ∧ Hid (Pst a b i j G1))
                case atStart => exact ⟨i2 + 1, x - 1, sw G1 i2 x, by simp, by congr 1; omega, by omega, by omega, by omega, by omega, hr2, hs2, hp2⟩
                case round =>
                  clear hr2 hs2 hp2 hcw hfw hii hij hjb hx1 hx2 hxj hlt hai2
                  obtain ⟨i, j, G1, rfl, rfl, hai, hij, hjb, hk, hr, hs, hp⟩ := hrel
                  go_wp2_with fail
                  go_loopg [10] (j + 1 - i) (fun k vx wr => ∃ x : Nat, vx = .int .i64 x ∧ i ≤ x ∧ x ≤ j + 1 ∧ j + 1 - x ≤ k ∧ Hid (R64 w wr B off n G1) ∧ Hid (Pst a b x j G1))
                  case atStart => exact ⟨i, rfl, Nat.le_refl _, hij, Nat.le_refl _, hr, hp⟩
                  case round =>
                    clear hr hp
                    obtain ⟨x, rfl, hx1, hx2, hk, hr, hp⟩ := hrel
                    have hcw := hr.out.cell
                    have hfw := hr.out.frz
                    go_upto_region 13 with fail
                    go_cut [112] from 99 to 114 (fun c wx => Hid (R64 w wx B off n G1) ∧ ((c = .bool true ∧ x ≤ j ∧ Hid (G1 x < G1 a)) ∨ (c = .bool false ∧ Hid (x ≤ j → ¬ G1 x < G1 a))))
                    case first =>
                      by_cases hxj : x ≤ j
                      · by_cases hl : G1 x < G1 a
                        · go_quiet (first | (go_at_call 41; refine Calls.quiet_of_same (less41 _ _ _)))
                          go_wp2
                          go_meet
                          exact ⟨hr.out.drewN _, .inl ⟨rfl, hxj, hl⟩⟩
                        · have hd : decide (G1 x < G1 a) = false := decide_eq_false hl
                          go_quiet (first | (go_at_call 41; refine Calls.quiet_of_same (less41 _ _ _)))
                          go_wp2
                          go_meet
                          exact ⟨hr.out.drewN _, .inr ⟨rfl, fun _ => hl⟩⟩
                      · have hd : decide ((x : Int) ≤ (j : Int)) = false := decide_eq_false (by omega)
                        go_quiet (first | (go_at_call 41; refine Calls.quiet_of_same (less41 _ _ _)))
                        go_wp2
                        go_meet
                        exact ⟨hr.out.drewN _, .inr ⟨rfl, fun hh => absurd hh hxj⟩⟩
                    case rest =>
                      clear hr hcw hfw
                      obtain ⟨hr, ⟨rfl, hxj, hl⟩ | ⟨rfl, hst⟩⟩ := hcut
                      · have hp2 : Hid (Pst a b (x + 1) j G1) := hp.out.up hl.out
                        go_wp2
                        go_roundg (j - x)
                        case measure => omega
                        case rel => exact ⟨x + 1, by simp <;> omega, by omega, by omega, by omega, hr, hp2⟩
                      · clear hk
                        revert x
                        intro i2 hii hij hp hst
                        have hai2 : a < i2 := by omega
                        clear hai
                        go_wp2_with fail
                        go_loopg [11] (j + 1 - i2) (fun k vx wr => ∃ x : Nat, vx = .int .i64 x ∧ x ≤ j ∧ i2 ≤ x + 1 ∧ x + 1 - i2 ≤ k ∧ Hid (R64 w wr B off n G1) ∧ Hid (Pst a b i2 x G1))
                        case atStart => exact ⟨j, rfl, Nat.le_refl _, hij, Nat.le_refl _, hr, hp⟩
                        case round =>
                          clear hr hp
                          obtain ⟨x, rfl, hx1, hx2, hk, hr, hp⟩ := hrel
                          have hcw := hr.out.cell
                          have hfw := hr.out.frz
                          go_upto_region 15 with fail
                          go_cut [129] from 115 to 131 (fun c wx => Hid (R64 w wx B off n G1) ∧ ((c = .bool true ∧ i2 ≤ x ∧ Hid (¬ G1 x < G1 a)) ∨ (c = .bool false ∧ Hid (i2 ≤ x → G1 x < G1 a))))
                          case first =>
                            by_cases hxj : i2 ≤ x
                            · by_cases hl : G1 x < G1 a
                              · go_quiet (first | (go_at_call 41; refine Calls.quiet_of_same (less41 _ _ _)))
                                go_wp2
                                go_meet
                                exact ⟨hr.out.drewN _, .inr ⟨rfl, fun _ => hl⟩⟩
                              · have hd : decide (G1 x < G1 a) = false := decide_eq_false hl
                                go_quiet (first | (go_at_call 41; refine Calls.quiet_of_same (less41 _ _ _)))
                                go_wp2
                                go_meet
                                exact ⟨hr.out.drewN _, .inl ⟨rfl, hxj, hl⟩⟩
                            · have hd : decide ((i2 : Int) ≤ (x : Int)) = false := decide_eq_false (by omega)
                              go_quiet (first | (go_at_call 41; refine Calls.quiet_of_same (less41 _ _ _)))
                              go_wp2
                              go_meet
                              exact ⟨hr.out.drewN _, .inr ⟨rfl, fun hh => absurd hh hxj⟩⟩
                          case rest =>
                            clear hr hcw hfw
                            obtain ⟨hr, ⟨rfl, hxj, hl⟩ | ⟨rfl, hst2⟩⟩ := hcut
                            · have hp2 : Hid (Pst a b i2 (x - 1) G1) := hp.out.down hl.out
                              go_wp2
                              go_roundg (x - i2)
                              case measure => omega
                              case rel => exact ⟨x - 1, by simp <;> omega, by omega, by omega, by omega, hr, hp2⟩
                            · clear hk
                              have hst2o : i2 ≤ x → G1 x < G1 a := fun hh => hst2.out hh
                              by_cases hxj : i2 ≤ x
                              · have hsw := hp.out.swap (by omega) hxj (by have := hst.out (by omega); omega) (hst2o hxj)
                                have hlt : i2 < x := hsw.2
                                have hp2 : Hid (Pst a b (i2 + 1) (x - 1) (sw G1 i2 x)) := hsw.1
                                have hs2 : Hid (Same a b G (sw G1 i2 x)) := hs.out.trans (Same.sw G1 (by omega) (by omega) (by omega) (by omega))
                                have hr2 : Hid (R64 w ((wc.setCell ⟨B, off + i2, none⟩ (.int .u64 (G1 x))).setCell ⟨B, off + x, none⟩ (.int .u64 (G1 i2))).drew B off n (sw G1 i2 x)) := hr.out.swapd i2 x (by omega) (by omega)
                                have hcw := hr.out.cell
                                have hfw := hr.out.frz
                                clear hsw hs hp hr hst hst2 hst2o
                                go_wp2_with fail
                                go_region
                                go_wp2
                                go_roundg (x - 1 - i2)
                                case measure => omega
                                case rel => exact ⟨i2 + 1, x - 1, _, by simp, by congr 1; omega, by omega, by omega, by omega, by omega, hr2, hs2, hp2⟩
                              · clear hst2o
                                have hfin : Hid (Part a x b (sw G1 x a)) := hp.out.done (by omega) (by omega)
                                have hs2 : Hid (Same a b G (sw G1 x a)) := hs.out.trans (Same.sw G1 (by omega) (by omega) (by omega) (by omega))
                                have hr2 : Hid (R64 w ((wc.setCell ⟨B, off + x, none⟩ (.int .u64 (G1 a))).setCell ⟨B, off + a, none⟩ (.int .u64 (G1 x))).drew B off n (sw G1 x a)) := hr.out.swapd x a (by omega) (by omega)
                                have hcw := hr.out.cell
                                have hfw := hr.out.frz
                                obtain ⟨v', hy'⟩ := cell?_setCell_some (w := wc) (p := ⟨B, off + x, none⟩) (x := .int .u64 (G1 a)) (q := ⟨B, off + a, none⟩) (hcw a (by omega))
                                have hja : a ≤ x ∧ x < b := ⟨by omega, by omega⟩
                                clear hp hs hr hst hst2
                                go_wp2_with fail
                                go_region
                                go_wp2
                                go_ret2
                                exact ⟨x, false, _, rfl, hja.1, hja.2, hr2, hs2, hfin⟩
              · clear hst2o
                have hfin : Hid (Part a x b (sw G1 x a)) := hp.out.done (by omega) (by omega)
                have hs2 : Hid (Same a b G (sw G1 x a)) := hs.out.trans (Same.sw G1 (by omega) (by omega) (by omega) (by omega))
                have hr2 : Hid (R64 w ((wc.setCell ⟨B, off + x, none⟩ (.int .u64 (G1 a))).setCell ⟨B, off + a, none⟩ (.int .u64 (G1 x))).drew B off n (sw G1 x a)) := hr.out.swapd x a (by omega) (by omega)
                have hcw := hr.out.cell
                have hfw := hr.out.frz
                obtain ⟨v', hy'⟩ := cell?_setCell_some (w := wc) (p := ⟨B, off + x, none⟩) (x := .int .u64 (G1 a)) (q := ⟨B, off + a, none⟩) (hcw a (by omega))
                have hja : a ≤ x ∧ x < b := ⟨by omega, by omega⟩
                clear hp hs hr hst hst2
                go_wp2_with fail
                go_region
                go_wp2
                go_ret2
                exact ⟨x, true, _, rfl, hja.1, hja.2, hr2, hs2, hfin⟩
end Go.Proofs.YbulkbnryDoor
