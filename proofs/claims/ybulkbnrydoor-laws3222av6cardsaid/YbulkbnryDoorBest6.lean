import Derived.Test.YbulkbnryDoorHold6
namespace Go.Proofs.YbulkbnryDoor
open Go.RowKit Go.Sort
set_option linter.unusedSimpArgs false
set_option linter.unusedVariables false

structure Ent where
  hi : Int
  lo : Int
  bits : Nat
  place : Nat
def netOf (b : Nat) (e : Ent) : Net := ⟨(m6 e.hi e.lo b).1, (m6 e.hi e.lo b).2, (e.place : Int) - 1⟩
def build (b : Nat) (es : List Ent) : List Net := (es.filter fun e => decide (e.bits % 129 = b)).map (netOf b)
def best1 (hi lo : Int) (acc : Option Int) (x : Net) : Option Int :=
  if isIt hi lo x then (match acc with | none => some x.place | some p => if x.place < p then some x.place else some p) else acc
def best (hi lo : Int) (ns : List Net) : Option Int := ns.foldl (best1 hi lo) none

/-- acc is the least place among the networks that are it. -/
def Least (hi lo : Int) (ns : List Net) : Option Int → Prop
  | none => ∀ x ∈ ns, isIt hi lo x = false
  | some p => (∃ x ∈ ns, isIt hi lo x = true ∧ x.place = p) ∧ ∀ x ∈ ns, isIt hi lo x = true → p ≤ x.place
theorem least_snoc {hi lo : Int} {ns : List Net} {acc : Option Int} (h : Least hi lo ns acc) (x : Net) : Least hi lo (ns ++ [x]) (best1 hi lo acc x) := by
  unfold best1
  cases hx : isIt hi lo x with
  | false =>
    simp only [Bool.false_eq_true, if_false]
    cases acc with
    | none =>
      intro y hy
      rcases List.mem_append.1 hy with hy | hy
      · exact h y hy
      · simp at hy; subst hy; exact hx
    | some p =>
      obtain ⟨⟨z, hz, hz1, hz2⟩, h2⟩ := h
      refine ⟨⟨z, List.mem_append_left _ hz, hz1, hz2⟩, fun y hy hit => ?_⟩
      rcases List.mem_append.1 hy with hy | hy
      · exact h2 y hy hit
      · simp at hy; subst hy; rw [hx] at hit; cases hit
  | true =>
    simp only [if_true]
    cases acc with
    | none =>
      refine ⟨⟨x, by simp, hx, rfl⟩, fun y hy hit => ?_⟩
      rcases List.mem_append.1 hy with hy | hy
      · have := h y hy; rw [this] at hit; cases hit
      · simp at hy; subst hy; exact Int.le_refl _
    | some p =>
      obtain ⟨⟨z, hz, hz1, hz2⟩, h2⟩ := h
      simp only
      split
      · rename_i hlt
        refine ⟨⟨x, by simp, hx, rfl⟩, fun y hy hit => ?_⟩
        rcases List.mem_append.1 hy with hy | hy
        · have := h2 y hy hit; omega
        · simp at hy; subst hy; exact Int.le_refl _
      · rename_i hge
        refine ⟨⟨z, List.mem_append_left _ hz, hz1, hz2⟩, fun y hy hit => ?_⟩
        rcases List.mem_append.1 hy with hy | hy
        · exact h2 y hy hit
        · simp at hy; subst hy; omega
theorem best_snoc (hi lo : Int) (ns : List Net) (x : Net) : best hi lo (ns ++ [x]) = best1 hi lo (best hi lo ns) x := by
  unfold best; rw [List.foldl_append]; rfl
theorem best_least (hi lo : Int) (ns : List Net) : Least hi lo ns (best hi lo ns) := by
  induction h : ns.length generalizing ns with
  | zero =>
    obtain rfl : ns = [] := List.eq_nil_of_length_eq_zero h
    intro x hx; simp at hx
  | succ n ih =>
    obtain ⟨r, v, rfl⟩ : ∃ r v, ns = r ++ [v] := by
      have hne : ns ≠ [] := by intro e; rw [e] at h; simp at h
      exact ⟨ns.dropLast, ns.getLast hne, (List.dropLast_concat_getLast hne).symm⟩
    rw [best_snoc]
    exact least_snoc (ih r (by simpa using h)) v
theorem least_unique {hi lo : Int} {ns : List Net} {a b : Option Int} (ha : Least hi lo ns a) (hb : Least hi lo ns b) : a = b := by
  cases a with
  | none =>
    cases b with
    | none => rfl
    | some q =>
      obtain ⟨⟨x, hx, h1, _⟩, _⟩ := hb
      have := ha x hx; rw [this] at h1; cases h1
  | some p =>
    cases b with
    | none =>
      obtain ⟨⟨x, hx, h1, _⟩, _⟩ := ha
      have := hb x hx; rw [this] at h1; cases h1
    | some q =>
      obtain ⟨⟨x, hx, h1, rfl⟩, h2⟩ := ha
      obtain ⟨⟨y, hy, h3, rfl⟩, h4⟩ := hb
      have a1 := h2 y hy h3
      have a2 := h4 x hx h1
      congr 1; omega

theorem mem_sorted6 (ns : List Net) (x : Net) : x ∈ sorted6 ns ↔ x ∈ ns := by unfold sorted6; exact List.mem_mergeSort
theorem asc_sorted6 (ns : List Net) : Asc (sorted6 ns) := by
  intro a b hab hb
  have hp : (sorted6 ns).Pairwise (fun x y => (!ltOf cf14 y x) = true) := by
    unfold sorted6
    apply List.pairwise_mergeSort
    · intro x y z h1 h2
      simp only [Bool.not_eq_true'] at *
      exact swo14.ntrans z y x h2 h1
    · intro x y
      cases h : ltOf cf14 y x with
      | false => simp
      | true =>
        have : ltOf cf14 x y = false := by
          rw [lt14] at h; rw [nlt14]; omega
        simp [this]
  have := List.pairwise_iff_getElem.1 hp a b (by omega) hb hab
  simp only [List.getD, List.getElem?_eq_getElem hb, List.getElem?_eq_getElem (by omega : a < (sorted6 ns).length), Option.getD_some]
  simpa using this
theorem look_least (hi lo : Int) (ns : List Net) : Least hi lo ns ((lookup (sorted6 ns) hi lo).map (·.place)) := by
  cases h : lookup (sorted6 ns) hi lo with
  | none =>
    unfold lookup at h
    rw [List.find?_eq_none] at h
    intro x hx
    have := h x ((mem_sorted6 ns x).2 hx)
    simpa using this
  | some x =>
    unfold lookup at h
    rw [List.find?_eq_some_iff_getElem] at h
    obtain ⟨hit, i, hi', rfl, hbefore⟩ := h
    refine ⟨⟨_, (mem_sorted6 ns _).1 (List.getElem_mem hi'), hit, rfl⟩, fun y hy hit2 => ?_⟩
    obtain ⟨j, hj, rfl⟩ := List.getElem_of_mem ((mem_sorted6 ns y).2 hy)
    by_cases e : j < i
    · have := hbefore j e; rw [hit2] at this; simp at this
    · by_cases e2 : i = j
      · subst e2; exact Int.le_refl _
      · have := asc_sorted6 ns i j (by omega) hj
        simp only [List.getD, List.getElem?_eq_getElem hj, List.getElem?_eq_getElem hi', Option.getD_some] at this
        rw [nlt14] at this
        have a1 : (sorted6 ns)[i].hi = hi ∧ (sorted6 ns)[i].lo = lo := by simpa [isIt] using hit
        have a2 : (sorted6 ns)[j].hi = hi ∧ (sorted6 ns)[j].lo = lo := by simpa [isIt] using hit2
        show (sorted6 ns)[i].place ≤ (sorted6 ns)[j].place
        omega
theorem best_look (hi lo : Int) (ns : List Net) : best hi lo ns = (lookup (sorted6 ns) hi lo).map (·.place) := least_unique (best_least hi lo ns) (look_least hi lo ns)
theorem build_take {b : Nat} {es : List Ent} {k : Nat} {e : Ent} (h : es[k]? = some e) : build b (es.take (k + 1)) = build b (es.take k) ++ if e.bits % 129 = b then [netOf b e] else [] := by
  unfold build
  rw [List.take_add_one, h]
  simp only [Option.toList_some, List.filter_append, List.map_append]
  congr 1
  by_cases hb : e.bits % 129 = b <;> simp [hb]
end Go.Proofs.YbulkbnryDoor
