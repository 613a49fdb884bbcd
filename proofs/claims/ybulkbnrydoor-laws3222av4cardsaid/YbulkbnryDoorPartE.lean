import Derived.Test.YbulkbnryDoorHeap
import Derived.Deep.CutRange
import Derived.Deep.LoopGhost
namespace Go.Proofs.YbulkbnryDoor
open Go.RowKit
set_option linter.unusedSimpArgs false
set_option linter.unusedVariables false

/-- Between the two ends of a partition into equal and greater. -/
structure Est (a b i j : Nat) (G : Nat → Int) : Prop where
  lo : ∀ t, a ≤ t → t < i → G t ≤ G a
  hi : ∀ t, j < t → t < b → G a < G t
theorem Est.start (a b : Nat) (G : Nat → Int) : Est a b (a + 1) (b - 1) G := ⟨fun t h1 h2 => by rw [show t = a by omega]; exact Int.le_refl _, fun t h1 h2 => by omega⟩
theorem Est.up {a b i j : Nat} {G : Nat → Int} (h : Est a b i j G) (hl : ¬ G a < G i) : Est a b (i + 1) j G :=
  ⟨fun t h1 h2 => by
    by_cases e : t = i
    · subst e; omega
    · exact h.lo t h1 (by omega), h.hi⟩
theorem Est.down {a b i j : Nat} {G : Nat → Int} (h : Est a b i j G) (hl : G a < G j) : Est a b i (j - 1) G :=
  ⟨h.lo, fun t h1 h2 => by
    by_cases e : t = j
    · subst e; exact hl
    · exact h.hi t (by omega) h2⟩
theorem Est.swap {a b i j : Nat} {G : Nat → Int} (h : Est a b i j G) (ha : a < i) (hij : i ≤ j) (h1 : G a < G i) (h2 : ¬ G a < G j) : Est a b (i + 1) (j - 1) (sw G i j) ∧ i < j := by
  have hne : i ≠ j := fun e => by subst e; exact h2 h1
  have ea : sw G i j a = G a := sw_o _ _ _ _ (by omega) (by omega)
  refine ⟨⟨fun t h3 h4 => ?_, fun t h3 h4 => ?_⟩, by omega⟩
  · rw [ea]
    by_cases e : t = i
    · subst e; rw [sw_l]; omega
    · rw [sw_o _ _ _ _ e (by omega)]; exact h.lo t h3 (by omega)
  · rw [ea]
    by_cases e : t = j
    · subst e; rw [sw_r]; exact h1
    · rw [sw_o _ _ _ _ (by omega) e]; exact h.hi t (by omega) h4
set_option maxRecDepth 100000 in
set_option maxHeartbeats 3200000 in
theorem partEq42 (B off n cap a b p : Nat) (G : Nat → Int) (w : World) (h : Hid (R64 w w B off n G)) (hap : a ≤ p) (hpb : p < b) (hb : b ≤ n) (hn : n ≤ 100000) :
    Calls Ybad.prog 42 #[.slice (some ⟨B, off, none⟩) n cap, .int .i64 a, .int .i64 b, .int .i64 p] w fun e w' => ∃ (m : Nat) (G' : Nat → Int), e = .returned (.int .i64 m) ∧ a < m ∧ m ≤ b ∧ Hid (R64 w w' B off n G') ∧ Hid (Same a b G G') ∧ Hid ((∀ t, a ≤ t → t < m → G' t ≤ G p) ∧ ∀ t, m ≤ t → t < b → G p < G' t) := by
  have hcw := h.out.cell
  have hfw := h.out.frz
  have hr : Hid (R64 w ((w.setCell ⟨B, off + a, none⟩ (.int .u64 (G p))).setCell ⟨B, off + p, none⟩ (.int .u64 (G a))).drew B off n (sw G a p)) := h.out.swapd a p (by omega) (by omega)
  have hs : Hid (Same a b G (sw G a p)) := Same.sw G (by omega) (by omega) (by omega) (by omega)
  have he : Hid (sw G a p a = G p) := sw_l G a p
  obtain ⟨v', hy'⟩ := cell?_setCell_some (w := w) (p := ⟨B, off + a, none⟩) (x := .int .u64 (G p)) (q := ⟨B, off + p, none⟩) (hcw p (by omega))
  go_enter Ybad.func42, Ybad.ntmps42
  go_wp2_with fail
  go_region
  generalize ((w.setCell ⟨B, off + a, none⟩ (.int .u64 (G p))).setCell ⟨B, off + p, none⟩ (.int .u64 (G a))).drew = W1 at hr ⊢
  clear hcw hfw hy' v'
  go_wp2
  go_loopg [9, 10] (b - a) (fun k vi vj wr => ∃ (i j : Nat) (G1 : Nat → Int), vi = .int .i64 i ∧ vj = .int .i64 j ∧ a < i ∧ i ≤ j + 1 ∧ j < b ∧ j + 1 - i ≤ k ∧ Hid (R64 w wr B off n G1) ∧ Hid (Same a b G G1) ∧ Hid (G1 a = G p) ∧ Hid (Est a b i j G1))
  case atStart => exact ⟨a + 1, b - 1, sw G a p, by simp, by congr 1; omega, by omega, by omega, by omega, by omega, hr, hs, he, Est.start _ _ _⟩
  case round =>
    clear hr hs he h
    obtain ⟨i, j, G1, rfl, rfl, hai, hij, hjb, hk, hr, hs, he, hp⟩ := hrel
    go_wp2_with fail
    go_loopg [9] (j + 1 - i) (fun k vx wr => ∃ x : Nat, vx = .int .i64 x ∧ i ≤ x ∧ x ≤ j + 1 ∧ j + 1 - x ≤ k ∧ Hid (R64 w wr B off n G1) ∧ Hid (Est a b x j G1))
    case atStart => exact ⟨i, rfl, Nat.le_refl _, hij, Nat.le_refl _, hr, hp⟩
    case round =>
      clear hr hp
      obtain ⟨x, rfl, hx1, hx2, hk, hr, hp⟩ := hrel
      have hcw := hr.out.cell
      have hfw := hr.out.frz
      go_upto_region 3 with fail
      go_cut [43] from 29 to 45 (fun c wx => Hid (R64 w wx B off n G1) ∧ ((c = .bool true ∧ x ≤ j ∧ Hid (¬ G1 a < G1 x)) ∨ (c = .bool false ∧ Hid (x ≤ j → G1 a < G1 x))))
      case first =>
        by_cases hxj : x ≤ j
        · by_cases hl : G1 a < G1 x
          · go_quiet (first | (go_at_call 41; refine Calls.quiet_of_same (less41 _ _ _)))
            go_wp2
            go_meet
            exact ⟨hr.out.drewN _, .inr ⟨rfl, fun _ => hl⟩⟩
          · have hd : decide (G1 a < G1 x) = false := decide_eq_false hl
            go_quiet (first | (go_at_call 41; refine Calls.quiet_of_same (less41 _ _ _)))
            go_wp2
            go_meet
            exact ⟨hr.out.drewN _, .inl ⟨rfl, hxj, hl⟩⟩
        · have hd : decide ((x : Int) ≤ (j : Int)) = false := decide_eq_false (by omega)
          go_quiet (first | (go_at_call 41; refine Calls.quiet_of_same (less41 _ _ _)))
          go_wp2
          go_meet
          exact ⟨hr.out.drewN _, .inr ⟨rfl, fun hh => absurd hh hxj⟩⟩
      case rest =>
        clear hr hcw hfw
        obtain ⟨hr, ⟨rfl, hxj, hl⟩ | ⟨rfl, hst⟩⟩ := hcut
        · have hp2 : Hid (Est a b (x + 1) j G1) := hp.out.up hl.out
          go_wp2
          go_roundg (j - x)
          case measure => omega
          case rel => exact ⟨x + 1, by simp <;> omega, by omega, by omega, by omega, hr, hp2⟩
        · clear hk
          revert x
          intro i2 hii hij hp hst
          have hai2 : a < i2 := by omega
          clear hai
          go_wp2_with fail
          go_loopg [10] (j + 1 - i2) (fun k vx wr => ∃ x : Nat, vx = .int .i64 x ∧ x ≤ j ∧ i2 ≤ x + 1 ∧ x + 1 - i2 ≤ k ∧ Hid (R64 w wr B off n G1) ∧ Hid (Est a b i2 x G1))
          case atStart => exact ⟨j, rfl, Nat.le_refl _, hij, Nat.le_refl _, hr, hp⟩
          case round =>
            clear hr hp
            obtain ⟨x, rfl, hx1, hx2, hk, hr, hp⟩ := hrel
            have hcw := hr.out.cell
            have hfw := hr.out.frz
            go_upto_region 5 with fail
            go_cut [59] from 46 to 61 (fun c wx => Hid (R64 w wx B off n G1) ∧ ((c = .bool true ∧ i2 ≤ x ∧ Hid (G1 a < G1 x)) ∨ (c = .bool false ∧ Hid (i2 ≤ x → ¬ G1 a < G1 x))))
            case first =>
              by_cases hxj : i2 ≤ x
              · by_cases hl : G1 a < G1 x
                · go_quiet (first | (go_at_call 41; refine Calls.quiet_of_same (less41 _ _ _)))
                  go_wp2
                  go_meet
                  exact ⟨hr.out.drewN _, .inl ⟨rfl, hxj, hl⟩⟩
                · have hd : decide (G1 a < G1 x) = false := decide_eq_false hl
                  go_quiet (first | (go_at_call 41; refine Calls.quiet_of_same (less41 _ _ _)))
                  go_wp2
                  go_meet
                  exact ⟨hr.out.drewN _, .inr ⟨rfl, fun _ => hl⟩⟩
              · have hd : decide ((i2 : Int) ≤ (x : Int)) = false := decide_eq_false (by omega)
                go_quiet (first | (go_at_call 41; refine Calls.quiet_of_same (less41 _ _ _)))
                go_wp2
                go_meet
                exact ⟨hr.out.drewN _, .inr ⟨rfl, fun hh => absurd hh hxj⟩⟩
            case rest =>
              clear hr hcw hfw
              obtain ⟨hr, ⟨rfl, hxj, hl⟩ | ⟨rfl, hst2⟩⟩ := hcut
              · have hp2 : Hid (Est a b i2 (x - 1) G1) := hp.out.down hl.out
                go_wp2
                go_roundg (x - i2)
                case measure => omega
                case rel => exact ⟨x - 1, by simp <;> omega, by omega, by omega, by omega, hr, hp2⟩
              · clear hk
                by_cases hxj : i2 ≤ x
                · have hsw := hp.out.swap (by omega) hxj (hst.out (by omega)) (hst2.out hxj)
                  have hlt : i2 < x := hsw.2
                  have hp2 : Hid (Est a b (i2 + 1) (x - 1) (sw G1 i2 x)) := hsw.1
                  have he2 : Hid (sw G1 i2 x a = G p) := by rw [sw_o _ _ _ _ (by omega) (by omega)]; exact he.out
                  have hs2 : Hid (Same a b G (sw G1 i2 x)) := hs.out.trans (Same.sw G1 (by omega) (by omega) (by omega) (by omega))
                  have hr2 : Hid (R64 w ((wc.setCell ⟨B, off + i2, none⟩ (.int .u64 (G1 x))).setCell ⟨B, off + x, none⟩ (.int .u64 (G1 i2))).drew B off n (sw G1 i2 x)) := hr.out.swapd i2 x (by omega) (by omega)
                  have hcw := hr.out.cell
                  have hfw := hr.out.frz
                  clear hsw hs he hp hr hst hst2
                  go_wp2_with fail
                  go_region
                  go_wp2
                  go_roundg (x - 1 - i2)
                  case measure => omega
                  case rel => exact ⟨i2 + 1, x - 1, _, by simp, by congr 1; omega, by omega, by omega, by omega, by omega, hr2, hs2, he2, hp2⟩
                · have hfin : Hid ((∀ t, a ≤ t → t < i2 → G1 t ≤ G p) ∧ ∀ t, i2 ≤ t → t < b → G p < G1 t) :=
                    ⟨fun t h1 h2 => he.out ▸ hp.out.lo t h1 h2, fun t h1 h2 => he.out ▸ hp.out.hi t (by omega) h2⟩
                  clear he hp hst hst2
                  go_wp2
                  go_ret
                  exact ⟨i2, G1, rfl, by omega, by omega, hr, hs, hfin⟩
end Go.Proofs.YbulkbnryDoor
