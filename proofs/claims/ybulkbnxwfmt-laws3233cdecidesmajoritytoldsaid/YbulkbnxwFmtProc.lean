import Derived.Test.YbulkbnxwFmtNew
namespace Go.Proofs.YbulkbnxwFmt
open Go.RowKit
set_option linter.unusedSimpArgs false

set_option maxRecDepth 100000 in
set_option maxHeartbeats 3200000 in
theorem newResolver_any (E n : Nat) (d v : Int) (w : World) (he : Hid (EnvAt w E n)) (h1 : 1 ≤ n) (hn : n ≤ 1000) :
    Calls Ybaf.prog 18 #[.iface 39 (.pointer (some ⟨E, 0, none⟩)), .agg #[.int .i64 0, .string ⟨#[]⟩, .int .i64 d], .int .i64 0, .int .i64 v] w fun e w' => ∃ T L D, e = .returned (.agg #[.iface 39 (.pointer (some ⟨E, 0, none⟩)), .int .i64 0, .string ⟨#[]⟩, .int .i64 d, .int .i64 0, .int .i64 v, .int .i64 0, .pointer (some ⟨T, 0, none⟩), .slice none 0 0]) ∧ Hid (TreeAt w' T L D n (fun _ => none)) ∧ w.heap.size ≤ T ∧ w.heap.size ≤ L ∧ w.heap.size ≤ D ∧ Hid (Kept [] w w') := by
  go_enter Ybaf.func18, Ybaf.ntmps18
  go_wp2_with fail
  have k1 : Kept [] w ((w.alloc (.cells #[.int .i64 0, .string ⟨#[]⟩, .int .i64 d] 49)).alloc (.cells #[.nilIface, .int .i64 0, .string ⟨#[]⟩, .int .i64 0, .int .i64 0, .int .i64 0, .int .i64 0, .pointer none, .slice none 0 0] 74)) := ((Kept.refl _ _).alloc _).alloc _
  refine (newGatherer_any E n d v _ (he.out.kept k1 (by simp)) h1 hn).mono ?_
  rintro e w2 ⟨T, L, D, rfl, ht2, zT, zL, zD, h2⟩
  have hs2 := h2.out.size
  simp only [World.size_alloc] at zT zL zD hs2
  have r0 : w2.cell? ⟨w.heap.size + 1, 0, none⟩ = some (.nilIface) := (h2.out.cell _ _ (by simp) (by simp)).trans (by go_simp)
  have r1 : w2.cell? ⟨w.heap.size + 1, 1, none⟩ = some (.int .i64 0) := (h2.out.cell _ _ (by simp) (by simp)).trans (by go_simp)
  have r2 : w2.cell? ⟨w.heap.size + 1, 2, none⟩ = some (.string ⟨#[]⟩) := (h2.out.cell _ _ (by simp) (by simp)).trans (by go_simp)
  have r3 : w2.cell? ⟨w.heap.size + 1, 3, none⟩ = some (.int .i64 0) := (h2.out.cell _ _ (by simp) (by simp)).trans (by go_simp)
  have r4 : w2.cell? ⟨w.heap.size + 1, 4, none⟩ = some (.int .i64 0) := (h2.out.cell _ _ (by simp) (by simp)).trans (by go_simp)
  have r5 : w2.cell? ⟨w.heap.size + 1, 5, none⟩ = some (.int .i64 0) := (h2.out.cell _ _ (by simp) (by simp)).trans (by go_simp)
  have r6 : w2.cell? ⟨w.heap.size + 1, 6, none⟩ = some (.int .i64 0) := (h2.out.cell _ _ (by simp) (by simp)).trans (by go_simp)
  have r7 : w2.cell? ⟨w.heap.size + 1, 7, none⟩ = some (.pointer none) := (h2.out.cell _ _ (by simp) (by simp)).trans (by go_simp)
  have r8 : w2.cell? ⟨w.heap.size + 1, 8, none⟩ = some (.slice none 0 0) := (h2.out.cell _ _ (by simp) (by simp)).trans (by go_simp)
  have r9 : w2.frozen? ⟨w.heap.size + 1, 0, none⟩ = false := (h2.out.frozen _ _ (by simp) (by simp)).trans (by go_simp)
  have r10 : w2.frozen? ⟨w.heap.size + 1, 1, none⟩ = false := (h2.out.frozen _ _ (by simp) (by simp)).trans (by go_simp)
  have r11 : w2.frozen? ⟨w.heap.size + 1, 2, none⟩ = false := (h2.out.frozen _ _ (by simp) (by simp)).trans (by go_simp)
  have r12 : w2.frozen? ⟨w.heap.size + 1, 3, none⟩ = false := (h2.out.frozen _ _ (by simp) (by simp)).trans (by go_simp)
  have r13 : w2.frozen? ⟨w.heap.size + 1, 4, none⟩ = false := (h2.out.frozen _ _ (by simp) (by simp)).trans (by go_simp)
  have r14 : w2.frozen? ⟨w.heap.size + 1, 5, none⟩ = false := (h2.out.frozen _ _ (by simp) (by simp)).trans (by go_simp)
  have r15 : w2.frozen? ⟨w.heap.size + 1, 6, none⟩ = false := (h2.out.frozen _ _ (by simp) (by simp)).trans (by go_simp)
  have r16 : w2.frozen? ⟨w.heap.size + 1, 7, none⟩ = false := (h2.out.frozen _ _ (by simp) (by simp)).trans (by go_simp)
  have r17 : w2.frozen? ⟨w.heap.size + 1, 8, none⟩ = false := (h2.out.frozen _ _ (by simp) (by simp)).trans (by go_simp)
  have k2 : Kept [] w w2 := k1.trans h2.out
  have k4 : Hid (Kept [] w (((((((((w2.setCell ⟨w.heap.size + 1, 0, none⟩ (.iface 39 (.pointer (some ⟨E, 0, none⟩)))).setCell ⟨w.heap.size + 1, 1, none⟩ (.int .i64 0)).setCell ⟨w.heap.size + 1, 2, none⟩ (.string ⟨#[]⟩)).setCell ⟨w.heap.size + 1, 3, none⟩ (.int .i64 d)).setCell ⟨w.heap.size + 1, 4, none⟩ (.int .i64 0)).setCell ⟨w.heap.size + 1, 5, none⟩ (.int .i64 v)).setCell ⟨w.heap.size + 1, 6, none⟩ (.int .i64 0)).setCell ⟨w.heap.size + 1, 7, none⟩ (.pointer (some ⟨T, 0, none⟩))).setCell ⟨w.heap.size + 1, 8, none⟩ (.slice none 0 0))) := (((((((((k2.setCell (p := ⟨w.heap.size + 1, 0, none⟩) (.inr (by simp)) _).setCell (p := ⟨w.heap.size + 1, 1, none⟩) (.inr (by simp)) _).setCell (p := ⟨w.heap.size + 1, 2, none⟩) (.inr (by simp)) _).setCell (p := ⟨w.heap.size + 1, 3, none⟩) (.inr (by simp)) _).setCell (p := ⟨w.heap.size + 1, 4, none⟩) (.inr (by simp)) _).setCell (p := ⟨w.heap.size + 1, 5, none⟩) (.inr (by simp)) _).setCell (p := ⟨w.heap.size + 1, 6, none⟩) (.inr (by simp)) _).setCell (p := ⟨w.heap.size + 1, 7, none⟩) (.inr (by simp)) _).setCell (p := ⟨w.heap.size + 1, 8, none⟩) (.inr (by simp)) _)
  have k5 : Kept [w.heap.size + 1] w2 (((((((((w2.setCell ⟨w.heap.size + 1, 0, none⟩ (.iface 39 (.pointer (some ⟨E, 0, none⟩)))).setCell ⟨w.heap.size + 1, 1, none⟩ (.int .i64 0)).setCell ⟨w.heap.size + 1, 2, none⟩ (.string ⟨#[]⟩)).setCell ⟨w.heap.size + 1, 3, none⟩ (.int .i64 d)).setCell ⟨w.heap.size + 1, 4, none⟩ (.int .i64 0)).setCell ⟨w.heap.size + 1, 5, none⟩ (.int .i64 v)).setCell ⟨w.heap.size + 1, 6, none⟩ (.int .i64 0)).setCell ⟨w.heap.size + 1, 7, none⟩ (.pointer (some ⟨T, 0, none⟩))).setCell ⟨w.heap.size + 1, 8, none⟩ (.slice none 0 0)) := ((((((((((Kept.refl _ _).setCell (p := ⟨w.heap.size + 1, 0, none⟩) (.inl (by simp)) _).setCell (p := ⟨w.heap.size + 1, 1, none⟩) (.inl (by simp)) _).setCell (p := ⟨w.heap.size + 1, 2, none⟩) (.inl (by simp)) _).setCell (p := ⟨w.heap.size + 1, 3, none⟩) (.inl (by simp)) _).setCell (p := ⟨w.heap.size + 1, 4, none⟩) (.inl (by simp)) _).setCell (p := ⟨w.heap.size + 1, 5, none⟩) (.inl (by simp)) _).setCell (p := ⟨w.heap.size + 1, 6, none⟩) (.inl (by simp)) _).setCell (p := ⟨w.heap.size + 1, 7, none⟩) (.inl (by simp)) _).setCell (p := ⟨w.heap.size + 1, 8, none⟩) (.inl (by simp)) _)
  have t5 : Hid _ := ht2.out.kept k5 (by simp; omega) (by simp; omega) (by simp; omega)
  clear k1 k2 k5 h2 ht2
  go_wp2
  refine ⟨rfl, (.agg #[.iface 39 (.pointer (some ⟨E, 0, none⟩)), .int .i64 0, .string ⟨#[]⟩, .int .i64 d, .int .i64 0, .int .i64 v, .int .i64 0, .pointer (some ⟨T, 0, none⟩), .slice none 0 0]), ?_, T, L, D, rfl, t5, by omega, by omega, by omega, k4⟩
  simp [results, Ybaf.results18, go_sem, r0, r1, r2, r3, r4, r5, r6, r7, r8, r9, r10, r11, r12, r13, r14, r15, r16, r17]

set_option maxRecDepth 100000 in
set_option maxHeartbeats 3200000 in
theorem newProc_any (E n : Nat) (d v : Int) (w : World) (he : Hid (EnvAt w E n)) (h1 : 1 ≤ n) (hn : n ≤ 1000) :
    Calls Ybaf.prog 10 #[.iface 39 (.pointer (some ⟨E, 0, none⟩)), .agg #[.int .i64 0, .string ⟨#[]⟩, .int .i64 d], .int .i64 v] w fun e w' => ∃ P T L D, e = .returned (.pointer (some ⟨P, 0, none⟩)) ∧ Hid (ProcAt w' P E T d (.slice none 0 0)) ∧ Hid (TreeAt w' T L D n (fun _ => none)) ∧ w.heap.size ≤ P ∧ w.heap.size ≤ T ∧ w.heap.size ≤ L ∧ w.heap.size ≤ D ∧ Hid (P ≠ T ∧ P ≠ L ∧ P ≠ D) ∧ Hid (Kept [] w w') := by
  go_enter Ybaf.func10, Ybaf.ntmps10
  go_wp2_with fail
  have k1 : Kept [] w (w.alloc (.cells #[.int .i64 0, .string ⟨#[]⟩, .int .i64 d] 49)) := (Kept.refl _ _).alloc _
  refine (newResolver_any E n d v _ (he.out.kept k1 (by simp)) h1 hn).mono ?_
  rintro e w2 ⟨T, L, D, rfl, ht2, zT, zL, zD, h2⟩
  have hs2 := h2.out.size
  simp only [World.size_alloc] at zT zL zD hs2
  have tl := ht2.out.tl
  have ll := ht2.out.ll
  have dl := ht2.out.dl
  have k2 : Kept [] w2 (w2.alloc (.cells #[.iface 39 (.pointer (some ⟨E, 0, none⟩)), .int .i64 0, .string ⟨#[]⟩, .int .i64 d, .int .i64 0, .int .i64 v, .int .i64 0, .pointer (some ⟨T, 0, none⟩), .slice none 0 0] 77)) := (Kept.refl _ _).alloc _
  have t5 : Hid _ := ht2.out.kept k2 (by simp) (by simp) (by simp)
  have k4 : Hid _ := (k1.trans h2.out).trans k2
  have p5 : Hid (ProcAt (w2.alloc (.cells #[.iface 39 (.pointer (some ⟨E, 0, none⟩)), .int .i64 0, .string ⟨#[]⟩, .int .i64 d, .int .i64 0, .int .i64 v, .int .i64 0, .pointer (some ⟨T, 0, none⟩), .slice none 0 0] 77)) w2.heap.size E T d (.slice none 0 0)) := by
    refine ⟨by simp, ?_, ?_, ?_, ?_, ?_, ?_, ?_⟩ <;> go_simp
  clear k1 k2 h2 ht2
  go_wp2
  go_ret
  exact ⟨w2.heap.size, T, L, D, rfl, p5, t5, by omega, by omega, by omega, by omega, ⟨by omega, by omega, by omega⟩, k4⟩
end Go.Proofs.YbulkbnxwFmt
