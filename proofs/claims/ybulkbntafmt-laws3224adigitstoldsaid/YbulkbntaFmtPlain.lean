import Derived.Lib.ParseIntB
namespace Go.Proofs.YbulkbntaFmt
open Go.Lib

/-- A decimal digit. -/
def isDig (c : UInt8) : Bool := decide (48 ≤ c.toNat ∧ c.toNat ≤ 57)
/-- What the digits spell, behind acc. -/
def val (acc : Nat) (l : List UInt8) : Nat := l.foldl (fun a c => a * 10 + (c.toNat - 48)) acc
/-- The greatest int64. -/
def maxI : Nat := 9223372036854775807
/-- A leading minus. -/
def isNeg (l : List UInt8) : Bool := decide (l.head? = some 45)
def strip (l : List UInt8) : List UInt8 := if l.head? = some 45 then l.tail else l
/-- What is a quantity of shares, and which. -/
def model (l : List UInt8) : Option Nat :=
  if strip l = [] then none
  else if (strip l).all isDig then
    if maxI < val 0 (strip l) then none else if isNeg l && decide (val 0 (strip l) ≠ 0) then none else some (val 0 (strip l))
  else none

theorem val_nil (acc : Nat) : val acc [] = acc := List.foldl_nil
theorem val_cons (acc : Nat) (c : UInt8) (r : List UInt8) : val acc (c :: r) = val (acc * 10 + (c.toNat - 48)) r := List.foldl_cons ..
theorem val_ge (acc : Nat) (l : List UInt8) : acc ≤ val acc l := by
  induction l generalizing acc with
  | nil => rw [val_nil]; exact Nat.le_refl _
  | cons c r ih => rw [val_cons]; exact Nat.le_trans (by omega) (ih (acc * 10 + (c.toNat - 48)))
theorem val_append (l r : List UInt8) : ∀ acc, val acc (l ++ r) = val (val acc l) r := by
  induction l with
  | nil => intro acc; rw [List.nil_append, val_nil]
  | cons d t ih => intro acc; rw [List.cons_append, val_cons, val_cons]; exact ih _
theorem val_snoc (acc : Nat) (l : List UInt8) (c : UInt8) : val acc (l ++ [c]) = val acc l * 10 + (c.toNat - 48) := by
  rw [val_append, val_cons, val_nil]
theorem dig_of {c : UInt8} {r : List UInt8} (h : (c :: r).all isDig = true) : (48 ≤ c.toNat ∧ c.toNat ≤ 57) ∧ r.all isDig = true := by
  simp only [List.all_cons, Bool.and_eq_true] at h
  exact ⟨by simpa [isDig] using h.1, h.2⟩

theorem uint_ok (M : Nat) (hM : M < 18446744073709551620) (l : List UInt8) : ∀ acc, l.all isDig = true → val acc l ≤ M → parseUintM M acc l = .ok (val acc l) := by
  induction l with
  | nil => intro acc _ _; rw [parseUintM, val_nil]
  | cons c r ih =>
    intro acc h hv
    obtain ⟨hc, hr⟩ := dig_of h
    rw [val_cons] at hv ⊢
    have hg := val_ge (acc * 10 + (c.toNat - 48)) r
    rw [parseUintM, if_pos hc, if_neg (by omega), if_neg (by omega)]
    exact ih _ hr hv
theorem uint_range (M : Nat) (l : List UInt8) : ∀ acc, l.all isDig = true → acc ≤ M → M < val acc l → parseUintM M acc l = .range := by
  induction l with
  | nil => intro acc _ h1 h2; rw [val_nil] at h2; omega
  | cons c r ih =>
    intro acc h ha hv
    obtain ⟨hc, hr⟩ := dig_of h
    rw [val_cons] at hv
    rw [parseUintM, if_pos hc]
    by_cases h1 : 1844674407370955162 ≤ acc
    · rw [if_pos h1]
    · rw [if_neg h1]
      by_cases h2 : M < acc * 10 + (c.toNat - 48)
      · rw [if_pos h2]
      · rw [if_neg h2]; exact ih _ hr (by omega) hv

theorem int_ok (d : List UInt8) (hne : d ≠ []) (h : d.all isDig = true) (hv : val 0 d ≤ maxI) : parseIntB 64 d = .ok (val 0 d : Int) := by
  cases d with
  | nil => exact absurd rfl hne
  | cons c r =>
    have hc := (dig_of h).1
    have hs : ¬ (c.toNat = 43 ∨ c.toNat = 45) := by omega
    have hn : ¬ c.toNat = 45 := by omega
    have hcons : ¬ (c :: r) = [] := by simp
    unfold maxI at hv
    have e := uint_ok (2 ^ 64 - 1) (by decide) (c :: r) 0 h (by omega)
    simp only [parseIntB, parseUintB, if_neg hs, if_neg hcons, e]
    rw [if_neg (by simp [hn]; omega), if_neg (by simp [hn]), if_neg hn]
theorem int_range (d : List UInt8) (hne : d ≠ []) (h : d.all isDig = true) (hv : maxI < val 0 d) : parseIntB 64 d = .range := by
  cases d with
  | nil => exact absurd rfl hne
  | cons c r =>
    have hc := (dig_of h).1
    have hs : ¬ (c.toNat = 43 ∨ c.toNat = 45) := by omega
    have hn : ¬ c.toNat = 45 := by omega
    have hcons : ¬ (c :: r) = [] := by simp
    unfold maxI at hv
    by_cases hb : val 0 (c :: r) ≤ 2 ^ 64 - 1
    · have e := uint_ok (2 ^ 64 - 1) (by decide) (c :: r) 0 h hb
      simp only [parseIntB, parseUintB, if_neg hs, if_neg hcons, e]
      rw [if_pos (by simp [hn]; omega)]
    · have e := uint_range (2 ^ 64 - 1) (c :: r) 0 h (Nat.zero_le _) (by omega)
      simp only [parseIntB, parseUintB, if_neg hs, if_neg hcons, e]
end Go.Proofs.YbulkbntaFmt
