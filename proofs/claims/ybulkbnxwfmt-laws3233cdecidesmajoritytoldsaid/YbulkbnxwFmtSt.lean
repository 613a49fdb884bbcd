import Derived.Test.YbulkbnxwFmtGather
import Derived.Test.YbulkbnxwFmtFill
namespace Go.Proofs.YbulkbnxwFmt
open Go.RowKit

theorem updAll_snoc (f : Nat → Option Int) (ms : List Msg) (m : Msg) : updAll f (ms ++ [m]) = upd (updAll f ms) m := by
  unfold updAll; rw [List.foldl_append]; rfl
theorem updAll_none (ms : List Msg) (k : Nat) (h : ∀ m ∈ ms, 1 ≤ m.id ∧ m.id ≤ k) : ∀ f : Nat → Option Int, ∀ i, k ≤ i → f i = none → updAll f ms i = none := by
  induction ms with
  | nil => intro f i _ hf; exact hf
  | cons m r ih =>
    intro f i hi hf
    refine ih (fun x hx => h x (List.mem_cons_of_mem _ hx)) (upd f m) i hi ?_
    obtain ⟨h1, h2⟩ := h m (List.mem_cons_self ..)
    unfold upd
    split
    · show (if i = m.id - 1 then some m.v else f i) = none
      rw [if_neg (by omega)]; exact hf
    · exact hf

/-- The row of messages, cell by cell. -/
def Flat (ys : List Value) (ms : List Msg) : Prop := ∀ k m, ms[k]? = some m → ys[k * 6]? = some (.int .i64 1) ∧ ys[k * 6 + 1]? = some (.int .i64 0) ∧ ys[k * 6 + 2]? = some (.int .i64 m.id) ∧ ys[k * 6 + 3]? = some (.int .i64 1) ∧ ys[k * 6 + 4]? = some (.string (kindS m.val)) ∧ ys[k * 6 + 5]? = some (.iface 68 (.agg #[.int .i64 m.v, .int .i64 0]))
def cellsOf (m : Msg) : List Value := [.int .i64 1, .int .i64 0, .int .i64 m.id, .int .i64 1, .string (kindS m.val), .iface 68 (.agg #[.int .i64 m.v, .int .i64 0])]
theorem Flat.snoc {ys : List Value} {ms : List Msg} (h : Flat ys ms) (hl : ys.length = ms.length * 6) (m : Msg) : Flat (ys ++ cellsOf m) (ms ++ [m]) := by
  intro k x hx
  by_cases hk : k < ms.length
  · rw [List.getElem?_append_left hk] at hx
    obtain ⟨a0, a1, a2, a3, a4, a5⟩ := h k x hx
    refine ⟨?_, ?_, ?_, ?_, ?_, ?_⟩ <;> (rw [List.getElem?_append_left (by omega)]; assumption)
  · rw [List.getElem?_append_right (by omega)] at hx
    have hk2 : k = ms.length := by
      by_cases e : k - ms.length = 0
      · omega
      · rw [List.getElem?_eq_none (by simp; omega)] at hx; cases hx
    subst hk2
    simp at hx
    subst hx
    refine ⟨?_, ?_, ?_, ?_, ?_, ?_⟩ <;> rw [List.getElem?_append_right (by omega), hl]
    · rw [show ms.length * 6 - ms.length * 6 = 0 by omega]; rfl
    · rw [show ms.length * 6 + 1 - ms.length * 6 = 1 by omega]; rfl
    · rw [show ms.length * 6 + 2 - ms.length * 6 = 2 by omega]; rfl
    · rw [show ms.length * 6 + 3 - ms.length * 6 = 3 by omega]; rfl
    · rw [show ms.length * 6 + 4 - ms.length * 6 = 4 by omega]; rfl
    · rw [show ms.length * 6 + 5 - ms.length * 6 = 5 by omega]; rfl
theorem Flat.msgs {w : World} {M q c : Nat} {ys : List Value} {ms : List Msg} (h : Flat ys ms) (hl : ms.length = q) (ho : w.ownsRow 0 79 6 (.slice (some ⟨M, 0, none⟩) q c) q ys) : MsgsAt w M ms := by
  intro k m hm
  have hk : k < ms.length := by
    rcases Nat.lt_or_ge k ms.length with h | h
    · exact h
    · rw [List.getElem?_eq_none h] at hm; cases hm
  obtain ⟨a0, a1, a2, a3, a4, a5⟩ := h k m hm
  exact ⟨(ho.cellAt _ (by omega)).trans a0, (ho.cellAt _ (by omega)).trans a1, (ho.cellAt _ (by omega)).trans a2, (ho.cellAt _ (by omega)).trans a3, (ho.cellAt _ (by omega)).trans a4, (ho.cellAt _ (by omega)).trans a5⟩

def start : Nat → Option Int := fun _ => none
/-- Behind k rounds. -/
structure St (w wr : World) (n k q : Nat) (d : Int) (ms : List Msg) : Prop where
  own1 : ∃ ys, wr.ownsRow 0 79 6 (.slice (some ⟨w.heap.size, 0, none⟩) q n) q ys ∧ Flat ys ms
  own2 : ∃ xs, wr.ownsRow 0 2 1 (.slice (some ⟨w.heap.size + 1, 0, none⟩) n n) n xs ∧ ∀ i, i < k → xs[i]? = some (.int .i64 ((updAll start ms i).getD d))
  len : ms.length = q
  ids : ∀ m ∈ ms, 1 ≤ m.id ∧ m.id ≤ k
  qk : q ≤ k
  kept : Kept [] w wr

theorem St.cell {w wr : World} {n k q : Nat} {d : Int} {ms : List Msg} (h : St w wr n k q d ms) (j : Nat) (hj : j < n) : (∃ u, wr.cell? ⟨w.heap.size + 1, j, none⟩ = some u) ∧ wr.frozen? ⟨w.heap.size + 1, j, none⟩ = false := by
  obtain ⟨xs, ho, _⟩ := h.own2
  have hl : xs.length = n * 1 := ho.1
  exact ⟨⟨_, (ho.cellAt j (by omega)).trans (List.getElem?_eq_getElem (by omega))⟩, ho.frozenAt j⟩
theorem St.sz {w wr : World} {n k q : Nat} {d : Int} {ms : List Msg} (h : St w wr n k q d ms) : w.heap.size + 1 < wr.heap.size := by
  obtain ⟨xs, ho, _⟩ := h.own2
  exact (ho.lt _ rfl).2
/-- 'held[j-1] = def', and nothing was sent. -/
theorem St.def {w wr : World} {n k q : Nat} {d : Int} {ms : List Msg} (h : St w wr n k q d ms) (hk : k < n) : St w (wr.setCell ⟨w.heap.size + 1, k, none⟩ (.int .i64 d)) n (k + 1) q d ms := by
  obtain ⟨ys, o1, hf⟩ := h.own1
  obtain ⟨xs, o2, hx⟩ := h.own2
  have hl : xs.length = n * 1 := o2.1
  have ks : Kept [w.heap.size + 1] wr (wr.setCell ⟨w.heap.size + 1, k, none⟩ (.int .i64 d)) := (Kept.refl _ _).setCell (p := ⟨w.heap.size + 1, k, none⟩) (.inl (by simp)) _
  refine ⟨⟨ys, ks.owns (by simp) o1, hf⟩, ⟨_, (o2.stored k (.int .i64 d)).1, ?_⟩, h.len, fun m hm => ⟨(h.ids m hm).1, by have := (h.ids m hm).2; omega⟩, by have := h.qk; omega, h.kept.setCell (p := ⟨w.heap.size + 1, k, none⟩) (.inr (by simp)) _⟩
  intro i hi
  by_cases e : i = k
  · subst e
    rw [List.getElem?_set_self (by omega), updAll_none ms i h.ids start i (Nat.le_refl _) rfl]; rfl
  · rw [List.getElem?_set_ne (by omega)]; exact hx i (by omega)
/-- A message of the wrong kind behind it. -/
theorem St.relay {w wr w' : World} {n k q : Nat} {d v : Int} {ms : List Msg} (o : Obj) (h : St w wr n (k + 1) q d ms) (hq : q ≤ k) (ys : List Value) (hf : Flat ys ms) (ho1 : wr.ownsRow 0 79 6 (.slice (some ⟨w.heap.size, 0, none⟩) q n) q ys)
    (ho : w'.ownsRow 0 79 6 (.slice (some ⟨w.heap.size, 0, none⟩) (q + 1) n) (q + 1) (ys ++ cellsOf ⟨k + 1, false, v⟩)) (hg : (wr.alloc o).grownBy w' (some w.heap.size)) : St w w' n (k + 1) (q + 1) d (ms ++ [⟨k + 1, false, v⟩]) := by
  obtain ⟨xs, o2, hx⟩ := h.own2
  have hl := h.len
  have hyl : ys.length = q * 6 := ho1.1
  have kg : Kept [w.heap.size] wr w' := ((Kept.refl _ _).alloc o).grown hg (fun k hk => by cases hk; simp)
  refine ⟨⟨_, ho, hf.snoc (by omega) _⟩, ⟨xs, kg.owns (by simp) o2, ?_⟩, by simp [hl], ?_, by omega, (h.kept.alloc o).grown hg (fun k hk => by cases hk; exact .inr (Nat.le_refl _))⟩
  · intro i hi
    rw [updAll_snoc]
    exact hx i hi
  · intro m hm
    rcases List.mem_append.1 hm with hm | hm
    · exact h.ids m hm
    · simp at hm; subst hm; exact ⟨by simp, by simp⟩
/-- A message of the right kind, and its value held. -/
theorem St.value {w wr w' : World} {n k q : Nat} {d v : Int} {ms : List Msg} (o : Obj) (h : St w wr n (k + 1) q d ms) (hk : k < n) (hq : q ≤ k) (ys : List Value) (hf : Flat ys ms) (ho1 : wr.ownsRow 0 79 6 (.slice (some ⟨w.heap.size, 0, none⟩) q n) q ys)
    (ho : w'.ownsRow 0 79 6 (.slice (some ⟨w.heap.size, 0, none⟩) (q + 1) n) (q + 1) (ys ++ cellsOf ⟨k + 1, true, v⟩)) (hg : (wr.alloc o).grownBy w' (some w.heap.size)) :
    St w (w'.setCell ⟨w.heap.size + 1, k, none⟩ (.int .i64 v)) n (k + 1) (q + 1) d (ms ++ [⟨k + 1, true, v⟩]) ∧ (∃ u, w'.cell? ⟨w.heap.size + 1, k, none⟩ = some u) ∧ w'.frozen? ⟨w.heap.size + 1, k, none⟩ = false := by
  obtain ⟨xs, o2, hx⟩ := h.own2
  have hl := h.len
  have hxl : xs.length = n * 1 := o2.1
  have hyl : ys.length = q * 6 := ho1.1
  have kg : Kept [w.heap.size] wr w' := ((Kept.refl _ _).alloc o).grown hg (fun k hk => by cases hk; simp)
  have o3 := kg.owns (by simp) o2
  have ks : Kept [w.heap.size + 1] w' (w'.setCell ⟨w.heap.size + 1, k, none⟩ (.int .i64 v)) := (Kept.refl _ _).setCell (p := ⟨w.heap.size + 1, k, none⟩) (.inl (by simp)) _
  refine ⟨⟨⟨_, ks.owns (by simp) ho, hf.snoc (by omega) _⟩, ⟨_, (o3.stored k (.int .i64 v)).1, ?_⟩, by simp [hl], ?_, by omega, ((h.kept.alloc o).grown hg (fun k hk => by cases hk; exact .inr (Nat.le_refl _))).setCell (p := ⟨w.heap.size + 1, k, none⟩) (.inr (by simp)) _⟩, ⟨_, (o3.cellAt k (by omega)).trans (List.getElem?_eq_getElem (by omega))⟩, o3.frozenAt k⟩
  · intro i hi
    rw [updAll_snoc]
    by_cases e : i = k
    · subst e
      rw [List.getElem?_set_self (by omega)]
      simp [upd]
    · rw [List.getElem?_set_ne (by omega), hx i hi]
      simp [upd, e]
  · intro m hm
    rcases List.mem_append.1 hm with hm | hm
    · exact h.ids m hm
    · simp at hm; subst hm; exact ⟨by simp, by simp⟩
end Go.Proofs.YbulkbnxwFmt
