import Derived.Test.YbulkbnryDoorFind6
namespace Go.Proofs.YbulkbnryDoor
open Go.RowKit Go.Sort
set_option linter.unusedSimpArgs false
set_option linter.unusedVariables false

/-- Ascending by address, then by place. -/
def Asc (ns : List Net) : Prop := ∀ a b, a < b → b < ns.length → ltOf cf14 (ns.getD b default) (ns.getD a default) = false
def isIt (hi lo : Int) (x : Net) : Bool := decide (x.hi = hi ∧ x.lo = lo)
def lookup (ns : List Net) (hi lo : Int) : Option Net := ns.find? (isIt hi lo)

theorem asc_mono {ns : List Net} (h : Asc ns) (hi lo : Int) : ∀ a b, a ≤ b → b < ns.length → cf53 (ns.getD b default) ⟨hi, lo, 0⟩ < 0 → cf53 (ns.getD a default) ⟨hi, lo, 0⟩ < 0 := by
  intro a b hab hb hc
  by_cases e : a = b
  · subst e; exact hc
  have := h a b (by omega) hb
  rw [nlt14] at this
  rw [cf53_neg] at hc ⊢
  simp only at hc ⊢
  omega
theorem hits_look {ns : List Net} {hi lo : Int} {i : Nat} {b : Bool} (hs : Asc ns) (h : Hits ns ns.length hi lo i b) :
    lookup ns hi lo = if b then some (ns.getD i default) else none := by
  obtain ⟨h1, h2, h3, h4⟩ := h
  have low : ∀ a, a < i → isIt hi lo (ns.getD a default) = false := fun a ha => by
    have := h3 a ha
    rw [cf53_neg] at this
    simp only at this
    exact decide_eq_false (fun hh => by omega)
  cases b with
  | true =>
    obtain ⟨hin, hz⟩ := h2.1 rfl
    rw [cf53_zero] at hz
    simp only [if_true]
    unfold lookup
    rw [List.find?_eq_some_iff_getElem]
    refine ⟨decide_eq_true hz, i, hin, by simp [List.getD, hin], fun j hj => ?_⟩
    have := low j hj
    simp only [List.getD, List.getElem?_eq_getElem (Nat.lt_trans hj hin), Option.getD_some] at this
    simpa using this
  | false =>
    simp only [Bool.false_eq_true, if_false]
    unfold lookup
    rw [List.find?_eq_none]
    intro x hx
    obtain ⟨j, hj, rfl⟩ := List.getElem_of_mem hx
    have ej : ns.getD j default = ns[j] := by simp [List.getD, hj]
    by_cases hji : j < i
    · have := low j hji
      rw [ej] at this
      simpa using this
    · intro hit
      have hij : i ≤ j := by omega
      have hn : ¬ (i < ns.length ∧ cf53 (ns.getD i default) ⟨hi, lo, 0⟩ = 0) := fun hh => by have := h2.2 hh; cases this
      have hin : i < ns.length := by omega
      have hz : ¬ cf53 (ns.getD i default) ⟨hi, lo, 0⟩ = 0 := fun hh => hn ⟨hin, hh⟩
      have h0 := h4 i (Nat.le_refl _) hin
      have hne : ¬ (cf53 (ns.getD i default) ⟨hi, lo, 0⟩ < 0) := by omega
      rw [cf53_neg] at hne
      rw [cf53_zero] at hz
      simp only at hne hz
      have hjh : ns[j].hi = hi ∧ ns[j].lo = lo := by simpa [isIt] using hit
      by_cases e : i = j
      · subst e; rw [ej] at hz; exact hz hjh
      · have hlt := hs i j (by omega) hj
        rw [nlt14, ej] at hlt
        omega

set_option maxRecDepth 100000 in
set_option maxHeartbeats 1600000 in
theorem find6_none (B c n : Nat) (bits : Int) (ns : List Net) (hi lo : Int) (w : World) (h : Hid (Row6 w B ns)) (hl : Hid (ns.length = n)) (hn : n ≤ 100000) (hs : Hid (Asc ns)) (hf : Hid (lookup ns hi lo = none)) :
    Calls Ybad.prog 29 #[.agg #[.int .u8 bits, .slice (some ⟨B, 0, none⟩) n c], .int .u64 hi, .int .u64 lo] w fun e w' => e = .returned (.tuple #[.int .i64 0, .bool false]) ∧ Hid (Kept [] w w') := by
  have k0 : Hid (Kept [] w (w.alloc (.cells #[.int .u8 bits, .slice (some ⟨B, 0, none⟩) n c] 68))) := (Kept.refl _ _).alloc _
  have hr : Hid _ := h.out.kept k0.out (by simp)
  go_enter Ybad.func29, Ybad.ntmps29
  go_wp2_with fail
  refine (bsearch6 B c n ns hi lo _ hr hl hn (by rw [← hl.out]; exact asc_mono hs.out hi lo)).mono ?_
  rintro e w1 ⟨i, b, rfl, hh, hk⟩
  have hb : b = false := by
    have := hits_look hs.out (by rw [hl.out]; exact hh)
    rw [hf.out] at this
    cases b with
    | false => rfl
    | true => simp at this
  subst hb
  have hk2 : Hid (Kept [] w w1) := k0.out.trans hk.out
  clear hk k0 hh
  go_wp2
  go_ret2
  exact ⟨rfl, hk2⟩

set_option maxRecDepth 100000 in
set_option maxHeartbeats 1600000 in
theorem find6_some (B c n : Nat) (bits : Int) (ns : List Net) (hi lo : Int) (x : Net) (w : World) (h : Hid (Row6 w B ns)) (hl : Hid (ns.length = n)) (hn : n ≤ 100000) (hs : Hid (Asc ns)) (hf : Hid (lookup ns hi lo = some x)) :
    Calls Ybad.prog 29 #[.agg #[.int .u8 bits, .slice (some ⟨B, 0, none⟩) n c], .int .u64 hi, .int .u64 lo] w fun e w' => e = .returned (.tuple #[.int .i64 x.place, .bool true]) ∧ Hid (Kept [] w w') := by
  have k0 : Hid (Kept [] w (w.alloc (.cells #[.int .u8 bits, .slice (some ⟨B, 0, none⟩) n c] 68))) := (Kept.refl _ _).alloc _
  have hr : Hid _ := h.out.kept k0.out (by simp)
  go_enter Ybad.func29, Ybad.ntmps29
  go_wp2_with fail
  refine (bsearch6 B c n ns hi lo _ hr hl hn (by rw [← hl.out]; exact asc_mono hs.out hi lo)).mono ?_
  rintro e w1 ⟨i, b, rfl, hh, hk⟩
  obtain ⟨rfl, hx⟩ : b = true ∧ x = ns.getD i default := by
    have := hits_look hs.out (by rw [hl.out]; exact hh)
    rw [hf.out] at this
    cases b with
    | false => simp at this
    | true => exact ⟨rfl, by simpa using this⟩
  have hin : i < n := (hh.2.1.1 rfl).1
  obtain ⟨-, -, a2⟩ := (hr.out.kept hk.out (by simp)).cell i (by have := hl.out; omega)
  rw [← hx] at a2
  have q0 : (w.alloc (.cells #[.int .u8 bits, .slice (some ⟨B, 0, none⟩) n c] 68)).cell? ⟨w.heap.size, 1, none⟩ = some (.slice (some ⟨B, 0, none⟩) n c) := by go_simp
  have b1 := (hk.out.cell w.heap.size 1 (by simp) (by simp)).trans q0
  have hk2 : Hid (Kept [] w w1) := k0.out.trans hk.out
  clear hk k0 hh hx q0
  go_wp2
  go_ret2
  exact ⟨rfl, hk2⟩
end Go.Proofs.YbulkbnryDoor
