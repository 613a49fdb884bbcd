import Derived.Test.YbulkbnryDoorKept
import Derived.Test.YbulkbnryDoorProg
namespace Go.Proofs.YbulkbnryDoor
open Go.RowKit
set_option linter.unusedSimpArgs false
set_option linter.unusedVariables false

theorem Ybad.info3 : (Ybad.prog.info? 3).map (fun i => (i.zero, i.size, i.bytes)) = some (some (.int .i64 0), 1, 8) := by kernel_rfl

/-- The log's variable and the bound's: what has been visited lies in rows at or above Z. -/
structure LogAt (w : World) (LB SB Z : Nat) (lg : List Int) (stop : Nat) : Prop where
  ll : LB < w.heap.size
  sl : SB < w.heap.size
  c : ∃ v, w.cell? ⟨LB, 0, none⟩ = some v ∧ w.ownsRow Z 3 1 v lg.length (lg.map (Value.int .i64))
  z : w.frozen? ⟨LB, 0, none⟩ = false
  s : w.cell? ⟨SB, 0, none⟩ = some (.int .u8 stop)
theorem LogAt.kept {w w' : World} {LB SB Z : Nat} {lg : List Int} {stop : Nat} (h : LogAt w LB SB Z lg stop) (k : Kept [] w w') : LogAt w' LB SB Z lg stop := by
  obtain ⟨v, hc, ho⟩ := h.c
  refine ⟨Nat.lt_of_lt_of_le h.ll k.size, Nat.lt_of_lt_of_le h.sl k.size, ⟨v, (k.cell LB 0 h.ll (by simp)).trans hc, ?_⟩, (k.frozen LB 0 h.ll (by simp)).trans h.z, (k.cell SB 0 h.sl (by simp)).trans h.s⟩
  obtain ⟨h1, h2 | ⟨g, cap, cur, rfl, a, b, c⟩⟩ := ho
  · exact ⟨h1, .inl h2⟩
  · refine ⟨h1, .inr ⟨g, cap, cur, rfl, a, ?_, c⟩⟩
    rw [k.block g (Array.getElem?_eq_some_iff.1 b).1 (by simp)]; exact b

set_option maxRecDepth 100000 in
set_option maxHeartbeats 1600000 in
theorem visit_any (LB SB Z stop : Nat) (lg : List Int) (place : Int) (w : World) (h : Hid (LogAt w LB SB Z lg stop)) (hZ : Z ≤ w.heap.size) (zL : LB < Z) (zS : SB < Z) (ne : ¬ LB = SB) (hl : lg.length ≤ 10000) (hst : stop ≤ 255) :
    Calls Ybad.prog 18 #[.int .i64 place, .pointer (some ⟨LB, 0, none⟩), .pointer (some ⟨SB, 0, none⟩)] w fun e w' => e = .returned (.bool (decide (¬ lg.length + 1 = stop))) ∧ Hid (LogAt w' LB SB Z (lg ++ [place]) stop) ∧ Hid (Held Z [LB] w w') := by
  obtain ⟨i0, hi, hz0, hz1, hz2⟩ := info_parts Ybad.info3
  obtain ⟨v, hc, ho⟩ := h.out.c
  have hz := h.out.z
  have ll := h.out.ll
  have sl := h.out.sl
  have hs := h.out.s
  go_enter Ybad.func18, Ybad.ntmps18
  go_wp2_with (first
    | (at_builtin; refine wpList_append_own _ rfl (.tmp 5) (.tmp 7) 32 rfl Z 3 i0 (.int .i64 0) 1 8 Ybad.underlying32 hi hz0 hz1 hz2 rfl (by decide) _ _ _ rfl (ho.alloc _) ⟨w.heap.size, 0, none⟩ 1 1 [.int .i64 place] rfl rfl (by intro t u ht; match t, ht with | 0, ht => simp at ht; subst ht; simp [Addr.add]) (by intro u hu; simp at hu; subst hu; rfl) (by unfold maxLen; omega) (by omega) (by simp; omega) ?_))
  intro v1 w1 hown1 hgrow1 hne1
  have hrow : ∀ k, v.ownBlock = some k → Z ≤ k := fun k hk => (ho.lt k hk).1
  have hh : Held Z [] w w1 := (((Kept.refl [] w).alloc (.cells #[.int .i64 place] 3)).held Z hZ (by simp)).grown hgrow1 (by simp; omega) (fun k hk => .inr (hrow k hk))
  have s1 : w.heap.size + 1 ≤ w1.heap.size := by simpa using hgrow1.size
  have c1 := (hh.cell LB 0 zL (by simp)).trans hc
  have z1 := (hh.frozen LB 0 zL (by simp)).trans hz
  have b1 := (hh.cell SB 0 zS (by simp)).trans hs
  have hnew : ∃ g cap, v1 = .slice (some ⟨g, 0, none⟩) (lg.length + 1) cap ∧ Z ≤ g := by
    rcases hown1.2 with ⟨e, h0⟩ | ⟨g, cap, cur, rfl, hb, _⟩
    · exact absurd h0 (by omega)
    · exact ⟨g, cap, rfl, hb⟩
  obtain ⟨g, cap, rfl, hg⟩ := hnew
  have k2 : Kept [LB] w1 (w1.setCell ⟨LB, 0, none⟩ (.slice (some ⟨g, 0, none⟩) (lg.length + 1) cap)) := (Kept.refl _ _).setCell (p := ⟨LB, 0, none⟩) (.inl (by simp)) _
  have o2 := k2.owns (g := g) (by simp; omega) hown1
  have hl2 : Hid (LogAt (w1.setCell ⟨LB, 0, none⟩ (.slice (some ⟨g, 0, none⟩) (lg.length + 1) cap)) LB SB Z (lg ++ [place]) stop) := by
    refine ⟨by simp; omega, by simp; omega, ⟨_, ?_, by simpa using o2⟩, ?_, (k2.cell SB 0 (by omega) (by simp; omega)).trans b1⟩ <;> go_simp
  have hh2 : Hid (Held Z [LB] w (w1.setCell ⟨LB, 0, none⟩ (.slice (some ⟨g, 0, none⟩) (lg.length + 1) cap))) := (hh.mono (Nat.le_refl _) (by simp)).trans (k2.held Z (by omega) (by simp))
  clear ho hc hz hs hown1 hgrow1 hne1 hrow hh o2 k2
  go_wp2
  go_ret
  refine ⟨?_, hl2, hh2⟩
  show Ending.returned (Value.bool ((lg.length : Int) + 1 != (stop : Int))) = _
  congr 2
  rw [Bool.eq_iff_iff]
  simp
  omega
end Go.Proofs.YbulkbnryDoor
