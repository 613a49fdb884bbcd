import Derived.WalkKit
namespace Go.Proofs.YbulkbnxwFmt

/-- One step of the vote: the candidate and its lead. -/
def step (s : Int × Nat) (v : Int) : Int × Nat :=
  if s.2 = 0 then (v, 1) else if v = s.1 then (s.1, s.2 + 1) else (s.1, s.2 - 1)
def vote (d : Int) (l : List Int) : Int × Nat := l.foldl step (d, 0)
/-- What 'majority' answers. -/
def maj (xs : List Int) (d : Int) : Int := if xs.length < 2 * xs.count (vote d xs).1 then (vote d xs).1 else d
/-- What plain counting answers. -/
def plain (xs : List Int) (d : Int) : Int := (xs.find? fun x => decide (xs.length < 2 * xs.count x)).getD d

theorem vote_nil (d : Int) : vote d [] = (d, 0) := rfl
theorem vote_snoc (d : Int) (l : List Int) (v : Int) : vote d (l ++ [v]) = step (vote d l) v := by
  unfold vote; rw [List.foldl_append]; rfl
theorem count_snoc (x v : Int) (l : List Int) : (l ++ [v]).count x = l.count x + if v = x then 1 else 0 := by
  rw [List.count_append, List.count_singleton]
  by_cases h : v = x <;> simp [h]

theorem vote_inv (d : Int) (l : List Int) : (vote d l).2 ≤ l.length ∧ (∀ x, x ≠ (vote d l).1 → 2 * l.count x + (vote d l).2 ≤ l.length) ∧ 2 * l.count (vote d l).1 ≤ l.length + (vote d l).2 := by
  induction h : l.length generalizing l with
  | zero =>
    obtain rfl : l = [] := List.eq_nil_of_length_eq_zero h
    simp [vote_nil]
  | succ n ih =>
    obtain ⟨r, v, rfl⟩ : ∃ r v, l = r ++ [v] := by
      have hne : l ≠ [] := by intro e; rw [e] at h; simp at h
      exact ⟨l.dropLast, l.getLast hne, (List.dropLast_concat_getLast hne).symm⟩
    have hr : r.length = n := by simpa using h
    obtain ⟨i1, i2, i3⟩ := ih r hr
    rw [vote_snoc]
    unfold step
    by_cases h0 : (vote d r).2 = 0
    · simp only [if_pos h0]
      refine ⟨by omega, fun x hx => ?_, ?_⟩
      · rw [count_snoc, if_neg (Ne.symm hx)]
        by_cases hc : x = (vote d r).1
        · subst hc; omega
        · have := i2 x hc; omega
      · rw [count_snoc, if_pos rfl]
        by_cases hc : v = (vote d r).1
        · rw [hc]; omega
        · have := i2 v hc; omega
    · simp only [if_neg h0]
      by_cases hv : v = (vote d r).1
      · simp only [if_pos hv]
        refine ⟨by omega, fun x hx => ?_, ?_⟩
        · rw [count_snoc, if_neg (fun e => hx (e.symm.trans hv))]
          have := i2 x hx; omega
        · rw [count_snoc, if_pos hv]; omega
      · simp only [if_neg hv]
        refine ⟨by omega, fun x hx => ?_, ?_⟩
        · rw [count_snoc]
          have := i2 x hx
          split <;> omega
        · rw [count_snoc, if_neg hv]; omega

theorem maj_plain (xs : List Int) (d : Int) : maj xs d = plain xs d := by
  obtain ⟨i1, i2, i3⟩ := vote_inv d xs
  unfold maj plain
  cases hf : xs.find? fun x => decide (xs.length < 2 * xs.count x) with
  | some x =>
    have hx : xs.length < 2 * xs.count x := by simpa using List.find?_some hf
    have hc : x = (vote d xs).1 := by
      by_cases h : x = (vote d xs).1
      · exact h
      · have := i2 x h; omega
    rw [← hc, if_pos hx]; rfl
  | none =>
    rw [List.find?_eq_none] at hf
    rw [if_neg]
    · rfl
    · intro h
      have hm : (vote d xs).1 ∈ xs := by
        apply List.count_pos_iff.1; omega
      exact hf _ hm (by simpa using h)

theorem take_snoc (xs : List Int) (k : Nat) (h : k < xs.length) : xs.take (k + 1) = xs.take k ++ [xs.getD k 0] := by
  rw [List.take_succ_eq_append_getElem h]; simp [List.getD, h]
theorem vote_take (d : Int) (xs : List Int) (k : Nat) (h : k < xs.length) : vote d (xs.take (k + 1)) = step (vote d (xs.take k)) (xs.getD k 0) := by
  rw [take_snoc xs k h, vote_snoc]
theorem count_take (x : Int) (xs : List Int) (k : Nat) (h : k < xs.length) : (xs.take (k + 1)).count x = (xs.take k).count x + if xs.getD k 0 = x then 1 else 0 := by
  rw [take_snoc xs k h, count_snoc]
theorem lead_le (d : Int) (xs : List Int) (k : Nat) : (vote d (xs.take k)).2 ≤ k := by
  have := (vote_inv d (xs.take k)).1
  have h2 : (xs.take k).length ≤ k := by simp; omega
  omega
theorem count_le (x : Int) (xs : List Int) (k : Nat) : (xs.take k).count x ≤ k := by
  have := List.count_le_length (a := x) (l := xs.take k)
  have h2 : (xs.take k).length ≤ k := by simp; omega
  omega
/-- None of the first k is held by more than half. -/
def NoneYet (xs : List Int) (k : Nat) : Prop := ∀ i, i < k → ¬ xs.length < 2 * xs.count (xs.getD i 0)
theorem plain_hit (xs : List Int) (d : Int) (k : Nat) (hk : k < xs.length) (hn : NoneYet xs k) (h : xs.length < 2 * xs.count (xs.getD k 0)) : plain xs d = xs.getD k 0 := by
  unfold plain
  have hf : (xs.find? fun x => decide (xs.length < 2 * xs.count x)) = some (xs.getD k 0) := by
    rw [List.find?_eq_some_iff_getElem]
    refine ⟨by simpa using h, k, hk, by simp [List.getD, hk], fun j hj => ?_⟩
    have := hn j hj
    simp only [List.getD, List.getElem?_eq_getElem (Nat.lt_trans hj hk), Option.getD_some] at this
    simpa using this
  rw [hf]; rfl
theorem plain_none (xs : List Int) (d : Int) (hn : NoneYet xs xs.length) : plain xs d = d := by
  unfold plain
  have hf : (xs.find? fun x => decide (xs.length < 2 * xs.count x)) = none := by
    rw [List.find?_eq_none]
    intro x hx
    obtain ⟨i, hi, rfl⟩ := List.getElem_of_mem hx
    have := hn i hi
    simp only [List.getD, List.getElem?_eq_getElem hi, Option.getD_some] at this
    simpa using this
  rw [hf]; rfl
theorem noneYet_succ {xs : List Int} {k : Nat} (h : NoneYet xs k) (hk : ¬ xs.length < 2 * xs.count (xs.getD k 0)) : NoneYet xs (k + 1) := by
  intro i hi
  by_cases he : i = k
  · subst he; exact hk
  · exact h i (by omega)
end Go.Proofs.YbulkbnxwFmt
