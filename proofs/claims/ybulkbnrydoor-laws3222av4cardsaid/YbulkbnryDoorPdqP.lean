import Derived.Test.YbulkbnryDoorPart
import Derived.Test.YbulkbnryDoorPartE
import Derived.Test.YbulkbnryDoorPins
namespace Go.Proofs.YbulkbnryDoor

theorem Part.glue {c m d : Nat} {G : Nat → Int} (h : Part c m d G) (h1 : Srt c m G) (h2 : Srt (m + 1) d G) : Srt c d G := by
  intro i j a1 a2 a3
  by_cases ei : i < m
  · by_cases ej : j < m
    · exact h1 i j a1 a2 ej
    · by_cases ej2 : j = m
      · subst ej2; exact h.lo i a1 ei
      · exact Int.le_trans (h.lo i a1 ei) (h.hi j (by omega) a3)
  · by_cases ei2 : i = m
    · subst ei2
      by_cases ej : j = i
      · subst ej; exact Int.le_refl _
      · exact h.hi j (by omega) a3
    · exact h2 i j (by omega) a2 a3
theorem Part.left {c m d : Nat} {G G' : Nat → Int} (h : Part c m d G) (s : Same c m G G') : Part c m d G' := by
  have e := s.out m (by omega)
  refine ⟨fun t h1 h2 => ?_, fun t h1 h2 => ?_⟩
  · rw [e]; exact s.all (P := fun x => x ≤ G m) h.lo t h1 h2
  · rw [e, s.out t (by omega)]; exact h.hi t h1 h2
theorem Part.right {c m d : Nat} {G G' : Nat → Int} (h : Part c m d G) (s : Same (m + 1) d G G') : Part c m d G' := by
  have e := s.out m (by omega)
  refine ⟨fun t h1 h2 => ?_, fun t h1 h2 => ?_⟩
  · rw [e, s.out t (by omega)]; exact h.lo t h1 h2
  · rw [e]; exact s.all (P := fun x => G m ≤ x) (fun t h1 h2 => h.hi t (by omega) h2) t (by omega) h2
theorem Part.lft {c m d : Nat} {G : Nat → Int} (h : Part c m d G) : Lft (m + 1) d G := fun _ t h1 h2 => h.hi t (by omega) h2
theorem Lft.cut {c m d : Nat} {G : Nat → Int} (h : Lft c d G) (hm : m ≤ d) : Lft c m G := fun h0 t h1 h2 => h h0 t h1 (by omega)
theorem Srt.of_out {c m a b : Nat} {G G' : Nat → Int} (h : Srt c m G) (s : Same a b G G') (hd : m ≤ a ∨ b ≤ c) : Srt c m G' := fun i j h1 h2 h3 => by
  rw [s.out i (by omega), s.out j (by omega)]; exact h i j h1 h2 h3
/-- To sort [c, d) from here is to sort the whole. -/
def Ends (a b c d : Nat) (G : Nat → Int) : Prop := ∀ G', Same c d G G' → Srt c d G' → Srt a b G'
theorem Ends.start (a b : Nat) (G : Nat → Int) : Ends a b a b G := fun _ _ h => h
theorem Ends.same {a b c d : Nat} {G G' : Nat → Int} (h : Ends a b c d G) (s : Same c d G G') : Ends a b c d G' := fun G2 s2 h2 => h G2 (s.trans s2) h2
theorem Ends.left {a b c d m : Nat} {G G' : Nat → Int} (h : Ends a b c d G) (hm : c ≤ m ∧ m < d) (hp : Part c m d G) (s : Same c m G G') (hs : Srt c m G') : Ends a b (m + 1) d G' := by
  intro G2 s2 h2
  have s3 : Same c d G G2 := (s.mono (Nat.le_refl _) (by omega)).trans (s2.mono (by omega) (Nat.le_refl _))
  exact h G2 s3 (((hp.left s).right s2).glue (hs.of_out s2 (.inl (by omega))) h2)
theorem Ends.right {a b c d m : Nat} {G G' : Nat → Int} (h : Ends a b c d G) (hm : c ≤ m ∧ m < d) (hp : Part c m d G) (s : Same (m + 1) d G G') (hs : Srt (m + 1) d G') : Ends a b c m G' := by
  intro G2 s2 h2
  have s3 : Same c d G G2 := (s.mono (by omega) (Nat.le_refl _)).trans (s2.mono (Nat.le_refl _) (by omega))
  exact h G2 s3 (((hp.right s).left s2).glue h2 (hs.of_out s2 (.inr (by omega))))
theorem Ends.equal {a b c d m p : Nat} {G G' : Nat → Int} (h : Ends a b c d G) (hm : c < m ∧ m ≤ d) (hl : Lft c d G) (hc : 0 < c) (hg : ¬ G (c - 1) < G p) (s : Same c d G G')
    (hp : (∀ t, c ≤ t → t < m → G' t ≤ G p) ∧ ∀ t, m ≤ t → t < d → G p < G' t) : Ends a b m d G' ∧ Lft m d G' := by
  have hall : ∀ t, c ≤ t → t < d → G p ≤ G' t := s.all (P := fun x => G p ≤ x) (fun t h1 h2 => by have := hl hc t h1 h2; omega)
  refine ⟨fun G2 s2 h2 => ?_, fun _ t h1 h2 => ?_⟩
  · refine h G2 (s.trans (s2.mono (by omega) (Nat.le_refl _))) fun i j a1 a2 a3 => ?_
    by_cases ei : i < m
    · rw [s2.out i (by omega)]
      have e1 := hp.1 i a1 ei
      by_cases ej : j < m
      · rw [s2.out j (by omega)]
        have e2 := hall j (by omega) a3
        omega
      · have e2 : G p < G2 j := s2.all (P := fun x => G p < x) hp.2 j (by omega) a3
        omega
    · exact h2 i j (by omega) a2 a3
  · have e1 := hp.1 (m - 1) (by omega) (by omega)
    have e2 := hp.2 t h1 h2
    omega
end Go.Proofs.YbulkbnryDoor
