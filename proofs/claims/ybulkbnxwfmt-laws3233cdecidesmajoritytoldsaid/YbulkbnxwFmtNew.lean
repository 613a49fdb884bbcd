import Derived.Test.YbulkbnxwFmtDecide
namespace Go.Proofs.YbulkbnxwFmt
open Go.RowKit
set_option linter.unusedSimpArgs false

set_option maxRecDepth 100000 in
set_option maxHeartbeats 3200000 in
theorem newGatherer_any (E n : Nat) (d v : Int) (w : World) (he : Hid (EnvAt w E n)) (h1 : 1 ≤ n) (hn : n ≤ 1000) :
    Calls Ybaf.prog 25 #[.iface 39 (.pointer (some ⟨E, 0, none⟩)), .agg #[.int .i64 0, .string ⟨#[]⟩, .int .i64 d], .int .i64 0, .agg #[.int .i64 v, .int .i64 0]] w fun e w' => ∃ T L D, e = .returned (.agg #[.iface 39 (.pointer (some ⟨E, 0, none⟩)), .int .i64 0, .string ⟨#[]⟩, .int .i64 d, .int .i64 0, .int .i64 v, .int .i64 0, .pointer (some ⟨T, 0, none⟩), .slice none 0 0]) ∧ Hid (TreeAt w' T L D n (fun _ => none)) ∧ w.heap.size ≤ T ∧ w.heap.size ≤ L ∧ w.heap.size ≤ D ∧ Hid (Kept [] w w') := by
  have mn := meth_n
  go_enter Ybaf.func25, Ybaf.ntmps25
  go_wp2_with fail
  rw [Nat.add_assoc]
  obtain ⟨W0, hW0⟩ : ∃ W0, Hid ((((w.alloc (.cells #[.int .i64 0, .string ⟨#[]⟩, .int .i64 d] 49)).alloc (.cells #[.int .i64 v, .int .i64 0] 68)).alloc (.cells #[.nilIface, .int .i64 0, .string ⟨#[]⟩, .int .i64 0, .int .i64 0, .int .i64 0, .int .i64 0, .pointer none, .slice none 0 0] 72)) = W0) := ⟨_, rfl⟩
  have hk0 : Hid (Kept [] w W0) := by show Kept [] w W0; rw [← hW0.out]; exact (((Kept.refl _ _).alloc _).alloc _).alloc _
  have hs0 : W0.heap.size = w.heap.size + 3 := by rw [← hW0.out]; simp
  have q0 : (W0.cell? ⟨w.heap.size, 0, none⟩ = some (.int .i64 0)) := by rw [← hW0.out]; go_simp
  have q1 : (W0.cell? ⟨w.heap.size, 1, none⟩ = some (.string ⟨#[]⟩)) := by rw [← hW0.out]; go_simp
  have q2 : (W0.cell? ⟨w.heap.size, 2, none⟩ = some (.int .i64 d)) := by rw [← hW0.out]; go_simp
  have q3 : (W0.cell? ⟨w.heap.size + 1, 0, none⟩ = some (.int .i64 v)) := by rw [← hW0.out]; go_simp
  have q4 : (W0.cell? ⟨w.heap.size + 1, 1, none⟩ = some (.int .i64 0)) := by rw [← hW0.out]; go_simp
  have q5 : (W0.cell? ⟨w.heap.size + 2, 0, none⟩ = some (.nilIface)) := by rw [← hW0.out]; go_simp
  have q6 : (W0.cell? ⟨w.heap.size + 2, 1, none⟩ = some (.int .i64 0)) := by rw [← hW0.out]; go_simp
  have q7 : (W0.cell? ⟨w.heap.size + 2, 2, none⟩ = some (.string ⟨#[]⟩)) := by rw [← hW0.out]; go_simp
  have q8 : (W0.cell? ⟨w.heap.size + 2, 3, none⟩ = some (.int .i64 0)) := by rw [← hW0.out]; go_simp
  have q9 : (W0.cell? ⟨w.heap.size + 2, 4, none⟩ = some (.int .i64 0)) := by rw [← hW0.out]; go_simp
  have q10 : (W0.cell? ⟨w.heap.size + 2, 5, none⟩ = some (.int .i64 0)) := by rw [← hW0.out]; go_simp
  have q11 : (W0.cell? ⟨w.heap.size + 2, 6, none⟩ = some (.int .i64 0)) := by rw [← hW0.out]; go_simp
  have q12 : (W0.cell? ⟨w.heap.size + 2, 7, none⟩ = some (.pointer none)) := by rw [← hW0.out]; go_simp
  have q13 : (W0.cell? ⟨w.heap.size + 2, 8, none⟩ = some (.slice none 0 0)) := by rw [← hW0.out]; go_simp
  have q14 : (W0.frozen? ⟨w.heap.size + 2, 0, none⟩ = false) := by rw [← hW0.out]; go_simp
  have q15 : (W0.frozen? ⟨w.heap.size + 2, 1, none⟩ = false) := by rw [← hW0.out]; go_simp
  have q16 : (W0.frozen? ⟨w.heap.size + 2, 2, none⟩ = false) := by rw [← hW0.out]; go_simp
  have q17 : (W0.frozen? ⟨w.heap.size + 2, 3, none⟩ = false) := by rw [← hW0.out]; go_simp
  have q18 : (W0.frozen? ⟨w.heap.size + 2, 4, none⟩ = false) := by rw [← hW0.out]; go_simp
  have q19 : (W0.frozen? ⟨w.heap.size + 2, 5, none⟩ = false) := by rw [← hW0.out]; go_simp
  have q20 : (W0.frozen? ⟨w.heap.size + 2, 6, none⟩ = false) := by rw [← hW0.out]; go_simp
  have q21 : (W0.frozen? ⟨w.heap.size + 2, 7, none⟩ = false) := by rw [← hW0.out]; go_simp
  have q22 : (W0.frozen? ⟨w.heap.size + 2, 8, none⟩ = false) := by rw [← hW0.out]; go_simp
  rw [hW0.out]
  clear hW0
  have edr : ∀ k, Hid (EnvAt (W0.drewN k) E n) := fun k => he.out.kept (hk0.out.drewN k) (by simp)
  have hng : ¬ ((n : Int) ≤ 0) := by omega
  have hdec : decide ((n : Int) ≤ 0) = false := by simp; omega
  go_quiet (first | (go_at_call 106; refine Calls.quiet_of_same (n_any E n _ (edr _))))
  go_wp2_with fail
  clear hdec hng
  go_region_held3 (fun W => W.cell? ⟨w.heap.size, 0, none⟩ = some (.int .i64 0) ∧ W.cell? ⟨w.heap.size, 1, none⟩ = some (.string ⟨#[]⟩) ∧ W.cell? ⟨w.heap.size, 2, none⟩ = some (.int .i64 d) ∧ W.cell? ⟨w.heap.size + 1, 0, none⟩ = some (.int .i64 v) ∧ W.cell? ⟨w.heap.size + 1, 1, none⟩ = some (.int .i64 0)) (first | (simp [go_sem, q0, q1, q2, q3, q4, q5, q6, q7, q8, q9, q10, q11, q12, q13, q14, q15, q16, q17, q18, q19, q20, q21, q22]; done) | (simp [go_sem, r0, r1, r2, r3, r4]; done) | (have hx := h2.out; refine ⟨?_, ?_, ?_, ?_, ?_⟩ <;> (rw [hx.cell _ _ (by show _ < W0.heap.size; omega) (by simp)]; simp [go_sem, q0, q1, q2, q3, q4, q5, q6, q7, q8, q9, q10, q11, q12, q13, q14, q15, q16, q17, q18, q19, q20, q21, q22]; done)))
    (first
    | (go_at_call 106; refine (n_any E n _ (edr _)).mono ?_; rintro e w' ⟨rfl, rfl⟩)
    | (go_at_call 28; refine (rounds_any d _).mono ?_; rintro e w2 ⟨rfl, h2⟩)
    | (go_at_call 33; refine (newTree_any n _ h1 hn).mono ?_; rintro e w3 ⟨T, L, D, rfl, ht3, zT, zL, zD, h3⟩; have k3 : Kept [] W0 w3 := (((Kept.refl [] W0).drewN _).trans h2.out).trans h3.out; have r0 := (k3.cell _ _ (by omega) (by simp)).trans q0; have r1 := (k3.cell _ _ (by omega) (by simp)).trans q1; have r2 := (k3.cell _ _ (by omega) (by simp)).trans q2; have r3 := (k3.cell _ _ (by omega) (by simp)).trans q3; have r4 := (k3.cell _ _ (by omega) (by simp)).trans q4; have r5 := (k3.cell _ _ (by omega) (by simp)).trans q5; have r6 := (k3.cell _ _ (by omega) (by simp)).trans q6; have r7 := (k3.cell _ _ (by omega) (by simp)).trans q7; have r8 := (k3.cell _ _ (by omega) (by simp)).trans q8; have r9 := (k3.cell _ _ (by omega) (by simp)).trans q9; have r10 := (k3.cell _ _ (by omega) (by simp)).trans q10; have r11 := (k3.cell _ _ (by omega) (by simp)).trans q11; have r12 := (k3.cell _ _ (by omega) (by simp)).trans q12; have r13 := (k3.cell _ _ (by omega) (by simp)).trans q13; have r14 := (k3.frozen _ _ (by omega) (by simp)).trans q14; have r15 := (k3.frozen _ _ (by omega) (by simp)).trans q15; have r16 := (k3.frozen _ _ (by omega) (by simp)).trans q16; have r17 := (k3.frozen _ _ (by omega) (by simp)).trans q17; have r18 := (k3.frozen _ _ (by omega) (by simp)).trans q18; have r19 := (k3.frozen _ _ (by omega) (by simp)).trans q19; have r20 := (k3.frozen _ _ (by omega) (by simp)).trans q20; have r21 := (k3.frozen _ _ (by omega) (by simp)).trans q21; have r22 := (k3.frozen _ _ (by omega) (by simp)).trans q22; clear k3))
  have hy : W0.heap.size ≤ w2.heap.size := h2.out.size
  have k3 : Kept [] w w3 := (hk0.out.drewN (nq + 1)).trans (h2.out.trans h3.out)
  have k4 : Hid (Kept [] w (((((((((w3.setCell ⟨w.heap.size + 2, 0, none⟩ (.iface 39 (.pointer (some ⟨E, 0, none⟩)))).setCell ⟨w.heap.size + 2, 1, none⟩ (.int .i64 0)).setCell ⟨w.heap.size + 2, 2, none⟩ (.string ⟨#[]⟩)).setCell ⟨w.heap.size + 2, 3, none⟩ (.int .i64 d)).setCell ⟨w.heap.size + 2, 4, none⟩ (.int .i64 0)).setCell ⟨w.heap.size + 2, 5, none⟩ (.int .i64 v)).setCell ⟨w.heap.size + 2, 6, none⟩ (.int .i64 0)).setCell ⟨w.heap.size + 2, 7, none⟩ (.pointer (some ⟨T, 0, none⟩))).setCell ⟨w.heap.size + 2, 8, none⟩ (.slice none 0 0))) := (((((((((k3.setCell (p := ⟨w.heap.size + 2, 0, none⟩) (.inr (by simp)) _).setCell (p := ⟨w.heap.size + 2, 1, none⟩) (.inr (by simp)) _).setCell (p := ⟨w.heap.size + 2, 2, none⟩) (.inr (by simp)) _).setCell (p := ⟨w.heap.size + 2, 3, none⟩) (.inr (by simp)) _).setCell (p := ⟨w.heap.size + 2, 4, none⟩) (.inr (by simp)) _).setCell (p := ⟨w.heap.size + 2, 5, none⟩) (.inr (by simp)) _).setCell (p := ⟨w.heap.size + 2, 6, none⟩) (.inr (by simp)) _).setCell (p := ⟨w.heap.size + 2, 7, none⟩) (.inr (by simp)) _).setCell (p := ⟨w.heap.size + 2, 8, none⟩) (.inr (by simp)) _)
  have k5 : Kept [w.heap.size + 2] w3 (((((((((w3.setCell ⟨w.heap.size + 2, 0, none⟩ (.iface 39 (.pointer (some ⟨E, 0, none⟩)))).setCell ⟨w.heap.size + 2, 1, none⟩ (.int .i64 0)).setCell ⟨w.heap.size + 2, 2, none⟩ (.string ⟨#[]⟩)).setCell ⟨w.heap.size + 2, 3, none⟩ (.int .i64 d)).setCell ⟨w.heap.size + 2, 4, none⟩ (.int .i64 0)).setCell ⟨w.heap.size + 2, 5, none⟩ (.int .i64 v)).setCell ⟨w.heap.size + 2, 6, none⟩ (.int .i64 0)).setCell ⟨w.heap.size + 2, 7, none⟩ (.pointer (some ⟨T, 0, none⟩))).setCell ⟨w.heap.size + 2, 8, none⟩ (.slice none 0 0)) := ((((((((((Kept.refl _ _).setCell (p := ⟨w.heap.size + 2, 0, none⟩) (.inl (by simp)) _).setCell (p := ⟨w.heap.size + 2, 1, none⟩) (.inl (by simp)) _).setCell (p := ⟨w.heap.size + 2, 2, none⟩) (.inl (by simp)) _).setCell (p := ⟨w.heap.size + 2, 3, none⟩) (.inl (by simp)) _).setCell (p := ⟨w.heap.size + 2, 4, none⟩) (.inl (by simp)) _).setCell (p := ⟨w.heap.size + 2, 5, none⟩) (.inl (by simp)) _).setCell (p := ⟨w.heap.size + 2, 6, none⟩) (.inl (by simp)) _).setCell (p := ⟨w.heap.size + 2, 7, none⟩) (.inl (by simp)) _).setCell (p := ⟨w.heap.size + 2, 8, none⟩) (.inl (by simp)) _)
  have t5 : Hid _ := ht3.out.kept k5 (by simp; omega) (by simp; omega) (by simp; omega)
  clear k3 k5 h2 h3 ht3 hk0 edr q0 q1 q2 q3 q4 q5 q6 q7 q8 q9 q10 q11 q12 q13 q14 q15 q16 q17 q18 q19 q20 q21 q22
  go_wp2
  refine ⟨rfl, .agg #[.iface 39 (.pointer (some ⟨E, 0, none⟩)), .int .i64 0, .string ⟨#[]⟩, .int .i64 d, .int .i64 0, .int .i64 v, .int .i64 0, .pointer (some ⟨T, 0, none⟩), .slice none 0 0], ?_, T, L, D, rfl, t5, by omega, by omega, by omega, k4⟩
  simp [results, Ybaf.results25, go_sem, r0, r1, r2, r3, r4, r5, r6, r7, r8, r9, r10, r11, r12, r13, r14, r15, r16, r17, r18, r19, r20, r21, r22]
end Go.Proofs.YbulkbnxwFmt
