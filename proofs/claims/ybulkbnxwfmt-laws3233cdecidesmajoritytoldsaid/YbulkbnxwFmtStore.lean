import Derived.Test.YbulkbnxwFmtTree
namespace Go.Proofs.YbulkbnxwFmt
open Go.RowKit

set_option maxRecDepth 100000 in
set_option maxHeartbeats 1600000 in
theorem index_any (T L D n G cap id : Nat) (f : Nat → Option Int) (w : World) (ht : Hid (TreeAt w T L D n f)) (hc : w.cell? ⟨G, 0, none⟩ = some (.int .i64 id)) (h1 : 1 ≤ id) (h2 : id ≤ n) (hn : n ≤ 1000) :
    Calls Ybaf.prog 55 #[.pointer (some ⟨T, 0, none⟩), .slice (some ⟨G, 0, none⟩) 1 cap] w fun e w' => e = .returned (.tuple #[.int .i64 ((id : Int) - 1), .bool true]) ∧ ∃ k, w' = w.drewN k := by
  have t0 := ht.out.t0
  have t1 := ht.out.t1
  have t2 := ht.out.t2
  go_enter Ybaf.func55, Ybaf.ntmps55
  go_wp2
  go_quiet (fail)
  go_wp2
  go_loop [4, 41] (fun r i => (i = .int .i64 0 ∧ r = .int .i64 0) ∨ (i = .int .i64 1 ∧ r = .int .i64 ((id : Int) - 1))) (fun _ i => 2 - (intOf i).toNat)
  case atStart => exact .inl ⟨rfl, rfl⟩
  case round =>
    rcases hrel with ⟨rfl, rfl⟩ | ⟨rfl, rfl⟩
    · go_wp2
      go_loop [4, 8, 71] (fun r k i => r = .int .i64 0 ∧ k = .int .i64 ((id : Int) - 1) ∧ i = .int .i64 0) (fun _ _ _ => 0)
      case atStart => exact ⟨rfl, rfl, rfl⟩
      case round =>
        obtain ⟨rfl, rfl, rfl⟩ := hrel
        go_wp2
        go_round
        case rel => exact .inr ⟨rfl, rfl⟩
        case measure => simp [intOf]
    · go_wp2
      go_ret2
      exact ⟨rfl, nq, rfl⟩

/-- A store into the row of nodes. -/
theorem TreeAt.set {w : World} {T L D n : Nat} {f : Nat → Option Int} (h : TreeAt w T L D n f) (i : Nat) (v : Int) (hi : i < n) :
    TreeAt (((w.setCell ⟨D, i * 3, none⟩ (.int .i64 v)).setCell ⟨D, i * 3 + 1, none⟩ (.int .i64 0)).setCell ⟨D, i * 3 + 2, none⟩ (.bool true)) T L D n (fun j => if j = i then some v else f j) := by
  obtain ⟨xs, ho, hx⟩ := h.nodes
  have hlen : xs.length = n * 3 := ho.1
  have o1 := ho.stored (i * 3) (.int .i64 v)
  have o2 := o1.1.stored (i * 3 + 1) (.int .i64 0)
  have o3 := o2.1.stored (i * 3 + 2) (.bool true)
  have k : Kept [D] w (((w.setCell ⟨D, i * 3, none⟩ (.int .i64 v)).setCell ⟨D, i * 3 + 1, none⟩ (.int .i64 0)).setCell ⟨D, i * 3 + 2, none⟩ (.bool true)) :=
    (((Kept.refl _ _).setCell (p := ⟨D, i * 3, none⟩) (.inl (by simp)) _).setCell (p := ⟨D, i * 3 + 1, none⟩) (.inl (by simp)) _).setCell (p := ⟨D, i * 3 + 2, none⟩) (.inl (by simp)) _
  have n1 : T ∉ [D] := by simpa using h.td
  have n2 : L ∉ [D] := by simpa using h.ld
  refine ⟨Nat.lt_of_lt_of_le h.tl k.size, Nat.lt_of_lt_of_le h.ll k.size, (k.cell T 0 h.tl n1).trans h.t0, (k.cell T 1 h.tl n1).trans h.t1, (k.cell T 2 h.tl n1).trans h.t2, (k.cell L 0 h.ll n2).trans h.l0, h.td, h.ld, _, o3.1, ?_⟩
  intro j hj
  obtain ⟨a, b, c⟩ := hx j hj
  by_cases e : j = i
  · subst e
    simp only [if_true, Option.getD_some, Option.isSome_some]
    refine ⟨?_, ?_, ?_⟩
    · rw [List.getElem?_set_ne (by omega), List.getElem?_set_ne (by omega), List.getElem?_set_self (by omega)]
    · rw [List.getElem?_set_ne (by omega), List.getElem?_set_self (by simp; omega)]
    · rw [List.getElem?_set_self (by simp; omega)]
  · simp only [if_neg e]
    refine ⟨?_, ?_, ?_⟩
    · rw [List.getElem?_set_ne (by omega), List.getElem?_set_ne (by omega), List.getElem?_set_ne (by omega)]; exact a
    · rw [List.getElem?_set_ne (by omega), List.getElem?_set_ne (by omega), List.getElem?_set_ne (by omega)]; exact b
    · rw [List.getElem?_set_ne (by omega), List.getElem?_set_ne (by omega), List.getElem?_set_ne (by omega)]; exact c

set_option maxRecDepth 100000 in
set_option maxHeartbeats 1600000 in
theorem tstore_any (T L D n G cap id : Nat) (v : Int) (f : Nat → Option Int) (w : World) (ht : Hid (TreeAt w T L D n f)) (hg : G < w.heap.size) (hc : w.cell? ⟨G, 0, none⟩ = some (.int .i64 id)) (h1 : 1 ≤ id) (h2 : id ≤ n) (hn : n ≤ 1000) :
    Calls Ybaf.prog 39 #[.pointer (some ⟨T, 0, none⟩), .slice (some ⟨G, 0, none⟩) 1 cap, .agg #[.int .i64 v, .int .i64 0]] w fun e w' => e = .returned (.bool true) ∧ Hid (TreeAt w' T L D n (fun j => if j = id - 1 then some v else f j)) ∧ Hid (Kept [D] w w') := by
  go_enter Ybaf.func39, Ybaf.ntmps39
  go_wp2_with fail
  have hk1 : Kept [] w (w.alloc (.cells #[.int .i64 v, .int .i64 0] 68)) := (Kept.refl _ _).alloc _
  have ht1 : Hid _ := ht.out.kept hk1 (by simp) (by simp) (by simp)
  have hc1 := (hk1.cell G 0 hg (by simp)).trans hc
  have q0 : (w.alloc (.cells #[.int .i64 v, .int .i64 0] 68)).cell? ⟨w.heap.size, 0, none⟩ = some (.int .i64 v) := by go_simp
  have q1 : (w.alloc (.cells #[.int .i64 v, .int .i64 0] 68)).cell? ⟨w.heap.size, 1, none⟩ = some (.int .i64 0) := by go_simp
  refine (index_any T L D n G cap id f _ ht1 hc1 h1 h2 hn).mono ?_
  rintro e w1 ⟨rfl, k, rfl⟩
  have hk : Hid _ := hk1
  clear hk1
  generalize w.alloc (.cells #[.int .i64 v, .int .i64 0] 68) = w1 at *
  have t2 := ht1.out.t2
  have l0 := ht1.out.l0
  obtain ⟨i, rfl⟩ : ∃ i, id = i + 1 := ⟨id - 1, by omega⟩
  have fz0 := ht1.out.fz (i * 3)
  have fz1 := ht1.out.fz (i * 3 + 1)
  have fz2 := ht1.out.fz (i * 3 + 2)
  have cc := ht1.out.cell i (by omega)
  obtain ⟨c0, c1, c2⟩ := cc
  go_wp2
  go_region
  have hk3 : Hid (Kept [D] w ((((w1.drewN (k + 1)).setCell ⟨D, i * 3, none⟩ (.int .i64 v)).setCell ⟨D, i * 3 + 1, none⟩ (.int .i64 0)).setCell ⟨D, i * 3 + 2, none⟩ (.bool true))) :=
    ((((hk.out.drewN (k + 1)).mono (S' := [D]) (by simp)).setCell (p := ⟨D, i * 3, none⟩) (.inl (by simp)) _).setCell (p := ⟨D, i * 3 + 1, none⟩) (.inl (by simp)) _).setCell (p := ⟨D, i * 3 + 2, none⟩) (.inl (by simp)) _
  have ht3 : Hid (TreeAt ((((w1.drewN (k + 1)).setCell ⟨D, i * 3, none⟩ (.int .i64 v)).setCell ⟨D, i * 3 + 1, none⟩ (.int .i64 0)).setCell ⟨D, i * 3 + 2, none⟩ (.bool true)) T L D n (fun j => if j = i + 1 - 1 then some v else f j)) :=
    (ht1.out.kept ((Kept.refl [] w1).drewN (k + 1)) (by simp) (by simp) (by simp)).set i v (by omega)
  clear fz0 fz1 fz2 c0 c1 c2 t2 l0 q0 q1
  go_wp2
  go_ret
  exact ⟨rfl, ht3, hk3⟩
end Go.Proofs.YbulkbnxwFmt
