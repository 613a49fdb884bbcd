import Derived.Test.YbulkbnxwFmtGather
namespace Go.Proofs.YbulkbnxwFmt
open Go.RowKit

theorem TreeAt.congr {w : World} {T L D n : Nat} {f g : Nat → Option Int} (h : TreeAt w T L D n f) (e : ∀ i, i < n → f i = g i) : TreeAt w T L D n g := by
  obtain ⟨xs, ho, hx⟩ := h.nodes
  refine ⟨h.tl, h.ll, h.t0, h.t1, h.t2, h.l0, h.td, h.ld, xs, ho, ?_⟩
  intro i hi
  rw [← e i hi]; exact hx i hi
def fillTo (f : Nat → Option Int) (d : Int) (k : Nat) : Nat → Option Int := fun i => if i < k then some ((f i).getD d) else f i

set_option maxRecDepth 100000 in
set_option maxHeartbeats 1600000 in
theorem fill_any (T L D n : Nat) (d : Int) (f : Nat → Option Int) (w : World) (ht : Hid (TreeAt w T L D n f)) (hn : n ≤ 1000) :
    Calls Ybaf.prog 27 #[.pointer (some ⟨T, 0, none⟩), .int .i64 1, .agg #[.int .i64 d, .int .i64 0]] w fun e w' => e = .returned (.tuple #[]) ∧ Hid (TreeAt w' T L D n (fun i => some ((f i).getD d))) ∧ Hid (Kept [D] w w') := by
  have t2 := ht.out.t2
  have l0 := ht.out.l0
  have tl := ht.out.tl
  have ll := ht.out.ll
  have hdl := ht.out.dl
  go_enter Ybaf.func27, Ybaf.ntmps27
  go_wp2
  clear t2 l0
  have hk0 : Kept [D] w (w.alloc (.cells #[.int .i64 d, .int .i64 0] 68)) := (Kept.refl _ _).alloc _
  have ht0 : Hid (TreeAt (w.alloc (.cells #[.int .i64 d, .int .i64 0] 68)) T L D n f) := ht.out.kept ((Kept.refl [] w).alloc _) (by simp) (by simp) (by simp)
  go_loopw [18] (fun i wr => ∃ k : Nat, k ≤ n ∧ i = .int .i64 k ∧ Hid (TreeAt wr T L D n (fillTo f d k)) ∧ Hid (Kept [D] (w.alloc (.cells #[.int .i64 d, .int .i64 0] 68)) wr)) (fun i _ => n - (intOf i).toNat)
  case atStart => exact ⟨0, Nat.zero_le _, rfl, ht0.out.congr (fun i _ => by simp [fillTo]), Kept.refl _ _⟩
  case round =>
    obtain ⟨k, hk, rfl, ht1, hk1⟩ := hrel
    by_cases hlt : k < n
    · obtain ⟨c0, c1, c2⟩ := ht1.out.cell k hlt
      have hfk : fillTo f d k k = f k := by simp [fillTo]
      have b0 : wr.cell? ⟨w.heap.size, 0, none⟩ = some (.int .i64 d) := (hk1.out.cell w.heap.size 0 (by simp) (by simp; omega)).trans (by go_simp)
      have b1 : wr.cell? ⟨w.heap.size, 1, none⟩ = some (.int .i64 0) := (hk1.out.cell w.heap.size 1 (by simp) (by simp; omega)).trans (by go_simp)
      rw [hfk] at c0 c2
      cases hf : f k with
      | some x =>
        rw [hf] at c0 c2
        simp only [Option.getD_some, Option.isSome_some] at c0 c2
        have hnext : Hid (TreeAt wr T L D n (fillTo f d (k + 1))) := ht1.out.congr (fun i _ => by
          unfold fillTo
          by_cases h : i = k
          · subst h; simp [hf]
          · by_cases h2 : i < k
            · rw [if_pos h2, if_pos (by omega)]
            · rw [if_neg h2, if_neg (by omega)])
        clear hf hfk
        go_wp2
        go_roundw
        case rel => exact ⟨k + 1, hlt, by go_num, hnext.out, hk1.out⟩
        case measure => simp [intOf]; omega
      | none =>
        rw [hf] at c0 c2
        simp only [Option.getD_none, Option.isSome_none] at c0 c2
        have fz0 := ht1.out.fz (k * 3)
        have fz1 := ht1.out.fz (k * 3 + 1)
        have fz2 := ht1.out.fz (k * 3 + 2)
        have hnext : Hid (TreeAt (((wr.setCell ⟨D, k * 3, none⟩ (.int .i64 d)).setCell ⟨D, k * 3 + 1, none⟩ (.int .i64 0)).setCell ⟨D, k * 3 + 2, none⟩ (.bool true)) T L D n (fillTo f d (k + 1))) := (ht1.out.set k d hlt).congr (fun i _ => by
          unfold fillTo
          by_cases h : i = k
          · subst h; simp [hf]
          · rw [if_neg h]
            by_cases h2 : i < k
            · rw [if_pos h2, if_pos (by omega)]
            · rw [if_neg h2, if_neg (by omega)])
        have hkn : Hid (Kept [D] (w.alloc (.cells #[.int .i64 d, .int .i64 0] 68)) (((wr.setCell ⟨D, k * 3, none⟩ (.int .i64 d)).setCell ⟨D, k * 3 + 1, none⟩ (.int .i64 0)).setCell ⟨D, k * 3 + 2, none⟩ (.bool true))) :=
          ((hk1.out.setCell (p := ⟨D, k * 3, none⟩) (.inl (by simp)) _).setCell (p := ⟨D, k * 3 + 1, none⟩) (.inl (by simp)) _).setCell (p := ⟨D, k * 3 + 2, none⟩) (.inl (by simp)) _
        clear hf hfk
        go_wp2
        go_roundw
        case rel => exact ⟨k + 1, hlt, by go_num, hnext.out, hkn.out⟩
        case measure => simp [intOf]; omega
    · obtain rfl : k = n := by omega
      go_wp2
      go_end0
      exact ⟨rfl, ht1.out.congr (fun i hi => by simp [fillTo, hi]), hk0.trans hk1.out⟩

theorem make38 (n : Nat) (hn : n ≤ 1000) (w : World) : (Instr.makeSlice 38 (.int .i64 n) (.int .i64 n)).run Ybaf.prog w = .ok (.slice (some ⟨w.heap.size, 0, none⟩) n n) (w.alloc (.cells (madeCells #[.int .i64 0] (n * 1)) 2)) := by
  obtain ⟨i0, hi, hz0, hz1, hz2⟩ := info_parts Ybaf.info2
  have := run_make (P := Ybaf.prog) w 38 2 i0 _ Ybaf.underlying38 hi hz0 .i64 .i64 n n (by omega) (by omega) (by rw [hz2]; omega) (by omega)
  rw [hz1, Int.toNat_natCast] at this
  exact this

set_option maxRecDepth 100000 in
set_option maxHeartbeats 1600000 in
theorem resolve_any (T L D n : Nat) (d : Int) (f : Nat → Option Int) (w : World) (ht : Hid (TreeAt w T L D n f)) (hn : n ≤ 1000) :
    Calls Ybaf.prog 29 #[.pointer (some ⟨T, 0, none⟩), .int .i64 d] w fun e w' => ∃ V, e = .returned (.slice (some ⟨V, 0, none⟩) n n) ∧ w.heap.size ≤ V ∧ V < w'.heap.size ∧ Hid (Nums w' V ((List.range n).map fun i => (f i).getD 0)) ∧ Hid (Kept [] w w') := by
  have hm := make38 n hn
  have t2 := ht.out.t2
  have l0 := ht.out.l0
  have tl := ht.out.tl
  have ll := ht.out.ll
  have hdl := ht.out.dl
  go_enter Ybaf.func29, Ybaf.ntmps29
  go_wp2
  go_quiet (fail)
  go_wp2
  clear t2 l0
  have hk0 : Kept [] w ((w.drewN nq).alloc (Obj.cells (madeCells #[Value.int .i64 0] n) 2)) := ((Kept.refl _ _).drewN nq).alloc _
  have ho0 : Hid (((w.drewN nq).alloc (Obj.cells (madeCells #[Value.int .i64 0] n) 2)).ownsRow 0 2 1 (.slice (some ⟨w.heap.size, 0, none⟩) n n) n (madeCells #[Value.int .i64 0] n).toList) :=
    World.ownsRow_lit (base := 0) (e := 2) (size := 1) (w.drewN nq) (madeCells #[Value.int .i64 0] n) n (Nat.zero_le _) (by unfold maxLen; omega) (by rw [size_madeCells]; omega)
  have hs0 : w.heap.size < ((w.drewN nq).alloc (Obj.cells (madeCells #[Value.int .i64 0] n) 2)).heap.size := by simp [World.drewN]
  have HK0 : Hid _ := hk0
  clear hk0
  generalize ((w.drewN nq).alloc (Obj.cells (madeCells #[Value.int .i64 0] n) 2)) = w1 at *
  go_loopw [30] (fun i wr => ∃ (k : Nat) (xs : List Value), k ≤ n ∧ i = .int .i64 k ∧ Hid (wr.ownsRow 0 2 1 (.slice (some ⟨w.heap.size, 0, none⟩) n n) n xs) ∧ Hid (∀ j, j < k → xs[j]? = some (.int .i64 ((f j).getD 0))) ∧ Hid (Kept [] w wr)) (fun i _ => n - (intOf i).toNat)
  case atStart => exact ⟨0, _, Nat.zero_le _, rfl, ho0, fun j hj => absurd hj (Nat.not_lt_zero _), HK0⟩
  case round =>
    clear HK0 ho0 hs0
    obtain ⟨k, xs, hk, rfl, ho, hx, HK⟩ := hrel
    have htr : Hid _ := ht.out.kept HK.out (by simp) (by simp) (by simp)
    by_cases hlt : k < n
    · obtain ⟨c0, c1, c2⟩ := htr.out.cell k hlt
      have hVl : w.heap.size < wr.heap.size := (ho.out.lt w.heap.size rfl).2
      have ho2 : Hid _ := (ho.out.stored k (.int .i64 ((f k).getD 0))).1.alloc (.cells #[.int .i64 ((f k).getD 0), .int .i64 0, .bool (f k).isSome] 111)
      have cv := ho.out.cellAt k (by omega)
      have fv := ho.out.frozenAt k
      obtain ⟨y, hy⟩ : ∃ y, xs[k]? = some y := ⟨_, List.getElem?_eq_getElem (by have := ho.out.1; omega)⟩
      rw [hy] at cv
      have hk2 : Hid (Kept [] w ((wr.setCell ⟨w.heap.size, k, none⟩ (.int .i64 ((f k).getD 0))).alloc (.cells #[.int .i64 ((f k).getD 0), .int .i64 0, .bool (f k).isSome] 111))) := (HK.out.setCell (p := ⟨w.heap.size, k, none⟩) (.inr (Nat.le_refl _)) _).alloc _
      have hx2 : Hid (∀ j, j < k + 1 → (xs.set k (.int .i64 ((f k).getD 0)))[j]? = some (.int .i64 ((f j).getD 0))) := fun j hj => by
        by_cases e : j = k
        · subst e; rw [List.getElem?_set_self (by have := ho.out.1; omega)]
        · rw [List.getElem?_set_ne (by omega)]; exact hx.out j (by omega)
      obtain ⟨x, hxe⟩ : ∃ x, x = (f k).getD 0 := ⟨_, rfl⟩
      rw [← hxe] at c0 ho2 hk2 hx2
      clear hy hxe
      go_wp2
      case roundEnd => exact ⟨⟨k + 1, _, hlt, by go_num, ho2.out, hx2.out, hk2.out⟩, by simp [intOf]; omega⟩
    · obtain rfl : k = n := by omega
      have t2 := htr.out.t2
      go_wp2
      go_loop [6, 9] (fun v i => v = .slice (some ⟨w.heap.size, 0, none⟩) k k ∧ i = .int .i64 0) (fun _ _ => 0)
      case atStart => exact ⟨rfl, rfl⟩
      case round =>
        obtain ⟨rfl, rfl⟩ := hrel
        go_wp2
        go_ret
        refine ⟨_, rfl, Nat.le_refl _, (ho.out.lt w.heap.size rfl).2, ?_, HK.out⟩
        intro j hj
        have hj' : j < k := by simpa using hj
        rw [ho.out.cellAt j (by omega), hx.out j hj']
        simp [List.getD, hj']
end Go.Proofs.YbulkbnxwFmt
