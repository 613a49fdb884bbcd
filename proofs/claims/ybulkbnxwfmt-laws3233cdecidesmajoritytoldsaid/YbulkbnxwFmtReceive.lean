import Derived.Test.YbulkbnxwFmtFill
namespace Go.Proofs.YbulkbnxwFmt
open Go.RowKit

set_option maxRecDepth 100000 in
theorem rounds_any (d : Int) (w : World) :
    Calls Ybaf.prog 28 #[.agg #[.int .i64 0, .string ⟨#[]⟩, .int .i64 d]] w fun e w' => e = .returned (.int .i64 1) ∧ Hid (Kept [] w w') := by
  go_enter Ybaf.func28, Ybaf.ntmps28
  go_wp2
  go_ret
  exact ⟨rfl, (Kept.refl _ _).alloc _⟩

def vals (f : Nat → Option Int) (d : Int) (ms : List Msg) (n : Nat) : List Int := (List.range n).map fun i => (updAll f ms i).getD d

set_option maxRecDepth 100000 in
set_option maxHeartbeats 3200000 in
theorem receive_any (P E T L D n Z M q c : Nat) (d : Int) (ms : List Msg) (f : Nat → Option Int) (w : World) (hp : Hid (∃ lab, ProcAt w P E T d lab ∧ LabAt w Z lab)) (ht : Hid (TreeAt w T L D n f)) (hms : Hid (MsgsAt w M ms)) (hq : Hid (ms.length = q)) (hids : Hid (∀ m ∈ ms, 1 ≤ m.id ∧ m.id ≤ n))
    (hZ : Z ≤ w.heap.size) (zP : P < Z) (zT : T < Z) (zL : L < Z) (zD : D < Z) (zM : M < Z) (nPT : Hid (P ≠ T ∧ P ≠ L ∧ P ≠ D)) (nM : Hid (M ≠ P ∧ M ≠ D)) (hn : n ≤ 1000) (hqn : q ≤ 1000) :
    Calls Ybaf.prog 19 #[.pointer (some ⟨P, 0, none⟩), .int .i64 1, .slice (some ⟨M, 0, none⟩) q c] w fun e w' => ∃ V, e = .returned (.tuple #[.slice (some ⟨V, 0, none⟩) n n, .bool true]) ∧ Z ≤ V ∧ V < w'.heap.size ∧ Hid (Nums w' V (vals f d ms n)) ∧ Hid (∃ lab, ProcAt w' P E T d lab ∧ LabAt w' Z lab) ∧ Hid (Held Z [P, D] w w') := by
  go_enter Ybaf.func19, Ybaf.ntmps19
  go_wp2_with fail
  refine (gather_any P E T L D n Z M q c d ms f w hp ht hms hq hids hZ zP zT zL zD zM nPT nM hn hqn).mono ?_
  rintro e w1 ⟨rfl, hp1, ht1, hh1⟩
  clear hp ht hms
  obtain ⟨lab, hpl, hll⟩ := hp1.out
  have p7 := hpl.p7
  have p3 := hpl.p3
  have pl := hpl.pl
  clear hpl hll
  have tdr : ∀ k, Hid (TreeAt (w1.drewN k) T L D n (updAll f ms)) := fun k => ht1.out.kept ((Kept.refl [] w1).drewN k) (by simp) (by simp) (by simp)
  go_wp2_with fail
  go_region_held3 (fun W => W.cell? ⟨P, 7, none⟩ = some (.pointer (some ⟨T, 0, none⟩)) ∧ W.cell? ⟨P, 3, none⟩ = some (.int .i64 d)) (first | (simp [go_sem, p7, p3]; done) | (have hx := h2.out; have hz := nPT.out; refine ⟨?_, ?_⟩ <;> (rw [hx.cell _ _ (by simp; omega) (by simp; omega)]; simp [go_sem, p7, p3])))
    (first
    | (go_at_call 27; refine (fill_any T L D n d (updAll f ms) _ (tdr 1) hn).mono ?_; rintro e w2 ⟨rfl, ht2, h2⟩))
  have k2 : Kept [D] w1 w2 := ((Kept.refl _ w1).drewN 1).trans h2.out
  have hp2 : Hid _ := proc_kept hp1.out k2 (by have := nPT.out; simp; omega) (by simp; omega)
  have hh2 : Hid (Held Z [P, D] w w2) := hh1.out.trans (k2.held Z (by have := hh1.out.size; omega) (by simp))
  clear hp1 ht1 hh1 p7 p3 pl tdr h2 k2
  obtain ⟨lab2, hpl, hll⟩ := hp2.out
  obtain ⟨pl, -, p1, p2, p3, p7, -, -⟩ := hpl
  clear hll
  go_wp2_with fail
  refine (rounds_any d w2).mono ?_
  rintro e w3 ⟨rfl, k3⟩
  have hp3 : Hid _ := proc_kept hp2.out k3.out (by simp) (by simp)
  have ht3 : Hid _ := ht2.out.kept k3.out (by simp) (by simp) (by simp)
  have hh3 : Hid (Held Z [P, D] w w3) := hh2.out.trans (k3.out.held Z (by have := hh2.out.size; omega) (by simp))
  clear hp2 ht2 hh2 p1 p2 p3 p7 pl k3
  obtain ⟨lab3, hpl, hll⟩ := hp3.out
  have p7 := hpl.p7
  have p3 := hpl.p3
  have pl := hpl.pl
  clear hpl hll
  have tdr : ∀ k, Hid (TreeAt (w3.drewN k) T L D n (fun i => some ((updAll f ms i).getD d))) := fun k => ht3.out.kept ((Kept.refl [] w3).drewN k) (by simp) (by simp) (by simp)
  go_wp2_with fail
  go_region_held3 (fun W => W.cell? ⟨P, 7, none⟩ = some (.pointer (some ⟨T, 0, none⟩)) ∧ W.cell? ⟨P, 3, none⟩ = some (.int .i64 d)) (first | (simp [go_sem, p7, p3]; done) | (have hx := h4.out; refine ⟨?_, ?_⟩ <;> (rw [hx.cell _ _ (by simp; omega) (by simp)]; simp [go_sem, p7, p3])))
    (first
    | (go_at_call 29; refine (resolve_any T L D n d _ _ (tdr 1) hn).mono ?_; rintro e w4 ⟨V, rfl, hV, hV4, hnum, h4⟩))
  have k4 : Kept [] w3 w4 := ((Kept.refl _ w3).drewN 1).trans h4.out
  have hp4 : Hid _ := proc_kept hp3.out k4 (by simp) (by simp)
  have hV' : w3.heap.size ≤ V := hV
  have hsz := hh3.out.size
  have hh4 : Hid (Held Z [P, D] w w4) := hh3.out.trans (k4.held Z (by omega) (by simp))
  clear hp3 ht3 hh3 p7 p3 pl tdr h4 k4
  go_wp2
  go_ret2
  refine ⟨V, rfl, by omega, hV4, ?_, hp4, hh4⟩
  exact hnum.out
end Go.Proofs.YbulkbnxwFmt
