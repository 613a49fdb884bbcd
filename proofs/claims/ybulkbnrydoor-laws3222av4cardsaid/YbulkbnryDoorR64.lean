import Derived.Test.YbulkbnryDoorTag
import Derived.WalkKit
import Derived.BigGuard
import Derived.BigCall
import Derived.CellFam
import Derived.Deep.Draws
import Derived.Deep.QuietTactic
import Derived.BigQuiet
namespace Go.Proofs.YbulkbnryDoor
open Go.RowKit
set_option linter.unusedSimpArgs false
set_option linter.unusedVariables false

/-- The row of keys: of the old blocks she alone is written. -/
structure R64 (w0 w : World) (B off n : Nat) (G : Nat → Int) : Prop where
  kept : Kept [B] w0 w
  cell : ∀ t, t < n → w.cell? ⟨B, off + t, none⟩ = some (.int .u64 (G t))
  frz : ∀ t, t < n → w.frozen? ⟨B, off + t, none⟩ = false
  tag : Tag w B 35
theorem R64.start {w0 w : World} {B off n : Nat} {G : Nat → Int} (h : R64 w0 w B off n G) : R64 w w B off n G := ⟨Kept.refl _ _, h.cell, h.frz, h.tag⟩
theorem R64.trans {a w0 w : World} {B off n : Nat} {G G' : Nat → Int} (h0 : R64 a w0 B off n G) (h : R64 w0 w B off n G') : R64 a w B off n G' := ⟨h0.kept.trans h.kept, h.cell, h.frz, h.tag⟩
theorem R64.drewN {w0 w : World} {B off n : Nat} {G : Nat → Int} (h : R64 w0 w B off n G) (q : Nat) : R64 w0 (w.drewN q) B off n G := ⟨h.kept.drewN q, h.cell, h.frz, h.tag⟩
theorem R64.thenKept {w0 w w' : World} {B off n : Nat} {G : Nat → Int} (h : R64 w0 w B off n G) (k : Kept [] w w') : R64 w0 w' B off n G :=
  ⟨h.kept.trans (k.mono (by simp)), fun t ht => (k.cell B _ h.tag.lt (by simp)).trans (h.cell t ht), fun t ht => (k.frozen B _ h.tag.lt (by simp)).trans (h.frz t ht), h.tag.kept k (by simp)⟩
def sw (G : Nat → Int) (i j : Nat) : Nat → Int := fun k => if k = j then G i else if k = i then G j else G k
theorem sw_l (G : Nat → Int) (i j : Nat) : sw G i j i = G j := by unfold sw; split <;> simp_all
theorem sw_r (G : Nat → Int) (i j : Nat) : sw G i j j = G i := by unfold sw; simp
theorem sw_o (G : Nat → Int) (i j k : Nat) (h1 : k ≠ i) (h2 : k ≠ j) : sw G i j k = G k := by unfold sw; rw [if_neg h2, if_neg h1]
theorem R64.swap {w0 w : World} {B off n : Nat} {G : Nat → Int} (h : R64 w0 w B off n G) (q i j : Nat) (hi : i < n) (hj : j < n) :
    R64 w0 (((w.drewN q).setCell ⟨B, off + i, none⟩ (.int .u64 (G j))).setCell ⟨B, off + j, none⟩ (.int .u64 (G i))) B off n (sw G i j) := by
  have h' := h.drewN q
  refine ⟨(h'.kept.setCell (p := ⟨B, off + i, none⟩) (.inl (by simp)) _).setCell (p := ⟨B, off + j, none⟩) (.inl (by simp)) _, fun t ht => ?_, fun t ht => by simpa using h'.frz t ht, (h'.tag.set _ _).set _ _⟩
  by_cases e1 : t = j
  · subst e1
    rw [sw_r]
    obtain ⟨v, hv⟩ := cell?_setCell_some (p := ⟨B, off + i, none⟩) (x := .int .u64 (G t)) (h'.cell t ht)
    exact World.cell?_setCell_same _ _ _ hv
  · rw [World.cell?_setCell_other _ _ _ _ (by simp <;> omega)]
    by_cases e2 : t = i
    · subst e2
      rw [sw_l]
      exact World.cell?_setCell_same _ _ _ (h'.cell t ht)
    · rw [World.cell?_setCell_other _ _ _ _ (by simp <;> omega), sw_o _ _ _ _ e2 e1]
      exact h'.cell t ht

/-- The same keys in [a, b), and all others where they were. -/
structure Same (a b : Nat) (G G' : Nat → Int) : Prop where
  out : ∀ t, t < a ∨ b ≤ t → G' t = G t
  fwd : ∀ t, a ≤ t → t < b → ∃ s, a ≤ s ∧ s < b ∧ G' t = G s
  bwd : ∀ t, a ≤ t → t < b → ∃ s, a ≤ s ∧ s < b ∧ G t = G' s
theorem Same.refl (a b : Nat) (G : Nat → Int) : Same a b G G := ⟨fun _ _ => rfl, fun t h1 h2 => ⟨t, h1, h2, rfl⟩, fun t h1 h2 => ⟨t, h1, h2, rfl⟩⟩
theorem Same.trans {a b : Nat} {G G' G'' : Nat → Int} (h : Same a b G G') (k : Same a b G' G'') : Same a b G G'' :=
  ⟨fun t ht => (k.out t ht).trans (h.out t ht),
   fun t h1 h2 => by obtain ⟨s, s1, s2, e⟩ := k.fwd t h1 h2; obtain ⟨r, r1, r2, e'⟩ := h.fwd s s1 s2; exact ⟨r, r1, r2, e.trans e'⟩,
   fun t h1 h2 => by obtain ⟨s, s1, s2, e⟩ := h.bwd t h1 h2; obtain ⟨r, r1, r2, e'⟩ := k.bwd s s1 s2; exact ⟨r, r1, r2, e.trans e'⟩⟩
theorem Same.mono {a b a' b' : Nat} {G G' : Nat → Int} (h : Same a b G G') (ha : a' ≤ a) (hb : b ≤ b') : Same a' b' G G' := by
  refine ⟨fun t ht => h.out t (by omega), fun t h1 h2 => ?_, fun t h1 h2 => ?_⟩
  · by_cases e : a ≤ t ∧ t < b
    · obtain ⟨s, s1, s2, e'⟩ := h.fwd t e.1 e.2; exact ⟨s, by omega, by omega, e'⟩
    · exact ⟨t, h1, h2, h.out t (by omega)⟩
  · by_cases e : a ≤ t ∧ t < b
    · obtain ⟨s, s1, s2, e'⟩ := h.bwd t e.1 e.2; exact ⟨s, by omega, by omega, e'⟩
    · exact ⟨t, h1, h2, (h.out t (by omega)).symm⟩
theorem Same.sw {a b i j : Nat} (G : Nat → Int) (i1 : a ≤ i) (i2 : i < b) (j1 : a ≤ j) (j2 : j < b) : Same a b G (YbulkbnryDoor.sw G i j) := by
  refine ⟨fun t ht => sw_o _ _ _ _ (by omega) (by omega), fun t h1 h2 => ?_, fun t h1 h2 => ?_⟩
  · by_cases e1 : t = j
    · subst e1; exact ⟨i, i1, i2, sw_r _ _ _⟩
    · by_cases e2 : t = i
      · subst e2; exact ⟨j, j1, j2, sw_l _ _ _⟩
      · exact ⟨t, h1, h2, sw_o _ _ _ _ e2 e1⟩
  · by_cases e1 : t = j
    · subst e1; exact ⟨i, i1, i2, (sw_l _ _ _).symm⟩
    · by_cases e2 : t = i
      · subst e2; exact ⟨j, j1, j2, (sw_r _ _ _).symm⟩
      · exact ⟨t, h1, h2, (sw_o _ _ _ _ e2 e1).symm⟩
theorem Same.all {a b : Nat} {G G' : Nat → Int} (h : Same a b G G') {P : Int → Prop} (hp : ∀ t, a ≤ t → t < b → P (G t)) : ∀ t, a ≤ t → t < b → P (G' t) := by
  intro t h1 h2
  obtain ⟨s, s1, s2, e⟩ := h.fwd t h1 h2
  rw [e]; exact hp s s1 s2
def Srt (a b : Nat) (G : Nat → Int) : Prop := ∀ i j, a ≤ i → i ≤ j → j < b → G i ≤ G j

theorem isNaN32 (x : Int) (w : World) : Calls Ybad.prog 32 #[.int .u64 x] w fun e w' => e = .returned (.bool false) ∧ w' = w := by
  go_enter Ybad.func32, Ybad.ntmps32
  go_wp2
  go_ret
  exact ⟨by simp, rfl⟩
theorem less41 (x y : Int) (w : World) : Calls Ybad.prog 41 #[.int .u64 x, .int .u64 y] w fun e w' => e = .returned (.bool (decide (x < y))) ∧ w' = w := by
  go_enter Ybad.func41, Ybad.ntmps41
  go_wp2_with (go_at_call 32; refine (isNaN32 _ _).mono ?_; rintro e w' ⟨rfl, rfl⟩)
  go_ret
  exact ⟨rfl, rfl⟩
end Go.Proofs.YbulkbnryDoor
