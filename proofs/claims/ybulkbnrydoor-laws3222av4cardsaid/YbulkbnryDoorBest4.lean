import Derived.Test.YbulkbnryDoorR64
import Derived.Test.YbulkbnryDoorBits
namespace Go.Proofs.YbulkbnryDoor
open Go.RowKit
set_option linter.unusedSimpArgs false
set_option linter.unusedVariables false

/-- A network of a level: its first address, and one more than its place. -/
structure K4 where
  f : Nat
  p : Nat
def K4.key (x : K4) : Int := ((x.f * 4294967296 + x.p : Nat) : Int)
def K4.ok (x : K4) : Prop := x.f < 4294967296 ∧ x.p ≤ 65535
theorem m4_nat (a : Int) (b : Nat) : ∃ f : Nat, m4 a b = f ∧ f < 4294967296 := by
  unfold m4 m32
  refine ⟨((BitVec.ofInt 32 a) &&& (BitVec.ofInt 32 (IntKind.u32.wrap (4294967295 * 2 ^ (32 - b))))).toNat, ?_, BitVec.isLt _⟩
  show IntKind.u32.wrap (((BitVec.ofInt 32 a) &&& (BitVec.ofInt 32 (IntKind.u32.wrap (4294967295 * 2 ^ (32 - b))))).toNat : Int) = _
  have := BitVec.isLt ((BitVec.ofInt 32 a) &&& (BitVec.ofInt 32 (IntKind.u32.wrap (4294967295 * 2 ^ (32 - b)))))
  generalize ((BitVec.ofInt 32 a) &&& (BitVec.ofInt 32 (IntKind.u32.wrap (4294967295 * 2 ^ (32 - b))))).toNat = z at this
  rw [IntKind.wrap_u32]; omega
theorem or_key (f p : Nat) (hf : f < 4294967296) (hp : p < 4294967296) : bits .or .u64 (IntKind.u64.wrap ((f : Int) * 4294967296)) (p : Int) = ((f * 4294967296 + p : Nat) : Int) := by
  rw [u64_wrap_id _ (by omega) (by omega)]
  show IntKind.u64.wrap (((BitVec.ofInt 64 ((f : Int) * 4294967296)) ||| (BitVec.ofInt 64 (p : Int))).toNat : Int) = _
  rw [show ((f : Int) * 4294967296) = ((f * 4294967296 : Nat) : Int) by omega, BitVec.ofInt_natCast, BitVec.ofInt_natCast, BitVec.toNat_or, BitVec.toNat_ofNat, BitVec.toNat_ofNat, Nat.mod_eq_of_lt (by omega), Nat.mod_eq_of_lt (by omega)]
  have h := Nat.two_pow_add_eq_or_of_lt (i := 32) (b := p) (by omega) f
  rw [show (2 : Nat) ^ 32 = 4294967296 by rfl, Nat.mul_comm] at h
  rw [← h, u64_wrap_id _ (by omega) (by omega)]
def best1 (F : Nat) (acc : Option Int) (x : K4) : Option Int :=
  if x.f = F then (match acc with | none => some ((x.p : Int) - 1) | some p => if (x.p : Int) - 1 < p then some ((x.p : Int) - 1) else some p) else acc
def best (F : Nat) (ks : List K4) : Option Int := ks.foldl (best1 F) none
def Least (F : Nat) (ks : List K4) : Option Int → Prop
  | none => ∀ x ∈ ks, x.f ≠ F
  | some p => (∃ x ∈ ks, x.f = F ∧ (x.p : Int) - 1 = p) ∧ ∀ x ∈ ks, x.f = F → p ≤ (x.p : Int) - 1
theorem least_snoc {F : Nat} {ks : List K4} {acc : Option Int} (h : Least F ks acc) (x : K4) : Least F (ks ++ [x]) (best1 F acc x) := by
  unfold best1
  by_cases hx : x.f = F
  · rw [if_pos hx]
    cases acc with
    | none =>
      refine ⟨⟨x, by simp, hx, rfl⟩, fun y hy hit => ?_⟩
      rcases List.mem_append.1 hy with hy | hy
      · exact absurd hit (h y hy)
      · simp at hy; subst hy; exact Int.le_refl _
    | some p =>
      obtain ⟨⟨z, hz, hz1, hz2⟩, h2⟩ := h
      simp only
      split
      · rename_i hlt
        refine ⟨⟨x, by simp, hx, rfl⟩, fun y hy hit => ?_⟩
        rcases List.mem_append.1 hy with hy | hy
        · have := h2 y hy hit; omega
        · simp at hy; subst hy; exact Int.le_refl _
      · rename_i hge
        refine ⟨⟨z, List.mem_append_left _ hz, hz1, hz2⟩, fun y hy hit => ?_⟩
        rcases List.mem_append.1 hy with hy | hy
        · exact h2 y hy hit
        · simp at hy; subst hy; omega
  · rw [if_neg hx]
    cases acc with
    | none =>
      intro y hy
      rcases List.mem_append.1 hy with hy | hy
      · exact h y hy
      · simp at hy; subst hy; exact hx
    | some p =>
      obtain ⟨⟨z, hz, hz1, hz2⟩, h2⟩ := h
      refine ⟨⟨z, List.mem_append_left _ hz, hz1, hz2⟩, fun y hy hit => ?_⟩
      rcases List.mem_append.1 hy with hy | hy
      · exact h2 y hy hit
      · simp at hy; subst hy; exact absurd hit hx
theorem best_snoc (F : Nat) (ks : List K4) (x : K4) : best F (ks ++ [x]) = best1 F (best F ks) x := by
  unfold best; rw [List.foldl_append]; rfl
theorem best_least (F : Nat) (ks : List K4) : Least F ks (best F ks) := by
  induction h : ks.length generalizing ks with
  | zero =>
    obtain rfl : ks = [] := List.eq_nil_of_length_eq_zero h
    intro x hx; simp at hx
  | succ n ih =>
    obtain ⟨r, v, rfl⟩ : ∃ r v, ks = r ++ [v] := by
      have hne : ks ≠ [] := by intro e; rw [e] at h; simp at h
      exact ⟨ks.dropLast, ks.getLast hne, (List.dropLast_concat_getLast hne).symm⟩
    rw [best_snoc]
    exact least_snoc (ih r (by simpa using h)) v
theorem least_unique {F : Nat} {ks : List K4} {a b : Option Int} (ha : Least F ks a) (hb : Least F ks b) : a = b := by
  cases a with
  | none =>
    cases b with
    | none => rfl
    | some q =>
      obtain ⟨⟨x, hx, h1, _⟩, _⟩ := hb
      exact absurd h1 (ha x hx)
  | some p =>
    cases b with
    | none =>
      obtain ⟨⟨x, hx, h1, _⟩, _⟩ := ha
      exact absurd h1 (hb x hx)
    | some q =>
      obtain ⟨⟨x, hx, h1, rfl⟩, h2⟩ := ha
      obtain ⟨⟨y, hy, h3, rfl⟩, h4⟩ := hb
      have a1 := h2 y hy h3
      have a2 := h4 x hx h1
      congr 1; omega
/-- The row holds the level's keys, in order. -/
structure KS (n : Nat) (G : Nat → Int) (ks : List K4) : Prop where
  fwd : ∀ t, t < n → ∃ x ∈ ks, G t = x.key
  bwd : ∀ x ∈ ks, ∃ t, t < n ∧ G t = x.key
  srt : Srt 0 n G
  ok : ∀ x ∈ ks, x.ok
/-- Where the search ends. -/
structure LB (n : Nat) (G : Nat → Int) (T : Int) (i : Nat) : Prop where
  le : i ≤ n
  lo : ∀ t, t < i → G t < T
  hi : ∀ t, i ≤ t → t < n → T ≤ G t
theorem lb_ex (G : Nat → Int) (T : Int) : ∀ n, Srt 0 n G → ∃ i, LB n G T i := by
  intro n
  induction n with
  | zero => intro _; exact ⟨0, Nat.le_refl _, fun t h => by omega, fun t h1 h2 => by omega⟩
  | succ n ih =>
    intro hs
    obtain ⟨i, h1, h2, h3⟩ := ih (fun p q a1 a2 a3 => hs p q a1 a2 (by omega))
    by_cases hi : i < n
    · refine ⟨i, by omega, h2, fun t a1 a2 => ?_⟩
      by_cases e : t = n
      · subst e; exact Int.le_trans (h3 i (Nat.le_refl _) hi) (hs i t (by omega) (by omega) (by omega))
      · exact h3 t a1 (by omega)
    · obtain rfl : i = n := by omega
      by_cases hl : G i < T
      · refine ⟨i + 1, Nat.le_refl _, fun t a1 => ?_, fun t a1 a2 => by omega⟩
        by_cases e : t = i
        · subst e; exact hl
        · exact h2 t (by omega)
      · refine ⟨i, by omega, h2, fun t a1 a2 => ?_⟩
        obtain rfl : t = i := by omega
        omega
theorem find_case {n : Nat} {G : Nat → Int} {ks : List K4} (h : KS n G ks) (F : Nat) : ∃ i, LB n G ((F * 4294967296 : Nat) : Int) i ∧
    ((best F ks = none ∧ (i = n ∨ (i < n ∧ ∃ x : K4, G i = x.key ∧ x.ok ∧ x.f ≠ F))) ∨ (∃ x : K4, best F ks = some ((x.p : Int) - 1) ∧ i < n ∧ G i = x.key ∧ x.ok ∧ x.f = F)) := by
  obtain ⟨i, hi⟩ := lb_ex G ((F * 4294967296 : Nat) : Int) n h.srt
  refine ⟨i, hi, ?_⟩
  by_cases e : i = n
  · refine .inl ⟨least_unique (best_least F ks) ?_, .inl e⟩
    intro x hx hf
    obtain ⟨t, ht, eq⟩ := h.bwd x hx
    have := hi.lo t (by omega)
    rw [eq] at this; unfold K4.key at this; rw [hf] at this
    omega
  · have hin : i < n := by have := hi.le; omega
    obtain ⟨x, hx, ex⟩ := h.fwd i hin
    have hT := hi.hi i (Nat.le_refl _) hin
    have hok := h.ok x hx
    by_cases ef : x.f = F
    · refine .inr ⟨x, least_unique (best_least F ks) ⟨⟨x, hx, ef, rfl⟩, fun y hy hf => ?_⟩, hin, ex, hok, ef⟩
      obtain ⟨t, ht, eq⟩ := h.bwd y hy
      have : i ≤ t := by
        refine Nat.le_of_not_lt fun hc => ?_
        have := hi.lo t hc
        rw [eq] at this; unfold K4.key at this; rw [hf] at this
        omega
      have h3 := h.srt i t (Nat.zero_le _) this ht
      rw [ex, eq] at h3; unfold K4.key at h3; rw [ef, hf] at h3
      omega
    · refine .inl ⟨least_unique (best_least F ks) ?_, .inr ⟨hin, x, ex, hok, ef⟩⟩
      intro y hy hf
      obtain ⟨t, ht, eq⟩ := h.bwd y hy
      have oky := h.ok y hy
      rw [ex] at hT
      unfold K4.key at hT
      have o1 := hok.2
      have o2 := oky.2
      have hlt : F < x.f := by omega
      have : i ≤ t := by
        refine Nat.le_of_not_lt fun hc => ?_
        have := hi.lo t hc
        rw [eq] at this; unfold K4.key at this; rw [hf] at this
        omega
      have h3 := h.srt i t (Nat.zero_le _) this ht
      rw [ex, eq] at h3; unfold K4.key at h3; rw [hf] at h3
      omega
end Go.Proofs.YbulkbnryDoor
