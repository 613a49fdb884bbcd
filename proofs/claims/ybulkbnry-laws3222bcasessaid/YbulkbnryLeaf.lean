import Derived.Test.YbulkbnryProg
import Derived.WalkKit
import Derived.WalkSpells
import Derived.WalkLawsBesides
import Derived.Deep.QuietTactic
import Derived.BigQuiet
namespace Go.Proofs.Ybulkbnry
open Go.RowKit

/-! ### The plain functions: as the walk spells them. -/
def mixF (h v : Int) : Int :=
  (bits BinOp.xor IntKind.u64
    (IntKind.u64.wrap
      (bits BinOp.xor IntKind.u64
          (IntKind.u64.wrap (bits BinOp.xor IntKind.u64 h v * 11400714819323198485))
          (IntKind.u64.wrap (bits BinOp.xor IntKind.u64 h v * 11400714819323198485) / 4294967296) *
        15485907386658061715))
    (IntKind.u64.wrap
        (bits BinOp.xor IntKind.u64
            (IntKind.u64.wrap (bits BinOp.xor IntKind.u64 h v * 11400714819323198485))
            (IntKind.u64.wrap (bits BinOp.xor IntKind.u64 h v * 11400714819323198485) / 4294967296) *
          15485907386658061715) / 4294967296))

def bitF (b : Bool) : Int := if b then 1 else 0

def hiF (hi n : Int) : Int :=
  if n = 0 then 0 else if n ≤ 64 then bits BinOp.andNot IntKind.u64 hi (IntKind.u64.wrap (IntKind.u64.wrap (2 ^ (64 - n).toNat) - 1)) else hi
def loF (lo n : Int) : Int :=
  if n ≤ 64 then 0 else bits BinOp.andNot IntKind.u64 lo (IntKind.u64.wrap (IntKind.u64.wrap (2 ^ (128 - n).toNat) - 1))

def pickF (s : Int) (p q : Option Addr) : Option Addr := if s % 3 = 0 then none else if s % 3 = 1 then p else q

/-- The sum of the trie that p points to: 0 for none. -/
def SumAt (w : World) (p : Option Addr) (s : Int) : Prop :=
  (p = none ∧ s = 0) ∨ ∃ b, p = some ⟨b, 0, none⟩ ∧ w.cell? ⟨b, 6, none⟩ = some (.int .u64 s)

set_option maxHeartbeats 400000 in
theorem mix_any (h v : Int) (w : World) :
    Calls Yba.prog 11 #[.int .u64 h, .int .u64 v] w fun e w' => e = .returned (.int .u64 (mixF h v)) ∧ w' = w := by
  unfold mixF
  go_enter Yba.func11, Yba.ntmps11
  go_wp2
  go_ret
  exact ⟨rfl, rfl⟩
set_option maxHeartbeats 400000 in
theorem bit_any (b : Bool) (w : World) :
    Calls Yba.prog 12 #[.bool b] w fun e w' => e = .returned (.int .u64 (bitF b)) ∧ w' = w := by
  unfold bitF
  cases b <;> (go_enter Yba.func12, Yba.ntmps12; go_wp2; go_ret; exact ⟨rfl, rfl⟩)

set_option maxHeartbeats 400000 in
theorem sum_nil (w : World) :
    Calls Yba.prog 13 #[.pointer none] w fun e w' => e = .returned (.int .u64 0) ∧ w' = w := by
  go_enter Yba.func13, Yba.ntmps13
  go_wp2
  go_ret
  exact ⟨rfl, rfl⟩
set_option maxHeartbeats 400000 in
theorem sum_some (b : Nat) (s : Int) (w : World) (hc : w.cell? ⟨b, 6, none⟩ = some (.int .u64 s)) :
    Calls Yba.prog 13 #[.pointer (some ⟨b, 0, none⟩)] w fun e w' => e = .returned (.int .u64 s) ∧ w' = w := by
  go_enter Yba.func13, Yba.ntmps13
  go_wp2
  go_ret
  exact ⟨rfl, rfl⟩
theorem sum_any (p : Option Addr) (s : Int) (w : World) (h : SumAt w p s) :
    Calls Yba.prog 13 #[.pointer p] w fun e w' => e = .returned (.int .u64 s) ∧ w' = w := by
  rcases h with ⟨rfl, rfl⟩ | ⟨b, rfl, hc⟩
  · exact sum_nil w
  · exact sum_some b s w hc

set_option maxHeartbeats 400000 in
theorem pick_any (s : Int) (p q : Option Addr) (w : World) (h0 : 0 ≤ s) (h1 : s ≤ 255) :
    Calls Yba.prog 9 #[.int .u8 s, .pointer p, .pointer q] w fun e w' => e = .returned (.pointer (pickF s p q)) ∧ w' = w := by
  have e0 : s % 3 = 0 ∨ s % 3 = 1 ∨ s % 3 = 2 := by omega
  unfold pickF
  rcases e0 with a | a | a
  all_goals
    go_enter Yba.func9, Yba.ntmps9
    go_wp2
    go_ret
    exact ⟨rfl, rfl⟩

set_option maxHeartbeats 400000 in
theorem first_any (hi lo n : Int) (w : World) (h0 : 0 ≤ n) (h1 : n ≤ 128) :
    Calls Yba.prog 10 #[.agg #[.int .u64 hi, .int .u64 lo, .int .u8 n]] w fun e w' => e = .returned (.tuple #[.int .u64 (hiF hi n), .int .u64 (loF lo n)]) ∧ ∃ k, w' = (w.alloc (.cells #[.int .u64 hi, .int .u64 lo, .int .u8 n] 28)).drewN k := by
  by_cases a : n = 0
  · subst a
    go_enter Yba.func10, Yba.ntmps10
    go_wp2
    go_ret2
    exact ⟨rfl, 0, rfl⟩
  by_cases b : n ≤ 64
  · have a' : (n == 0) = false := by simp [a]
    have e1 : hiF hi n = bits BinOp.andNot IntKind.u64 hi (IntKind.u64.wrap (IntKind.u64.wrap (2 ^ (64 - n).toNat) - 1)) := by simp [hiF, a, b]
    have e2 : loF lo n = 0 := by simp [loF, b]
    rw [e1, e2]
    clear e1 e2
    go_enter Yba.func10, Yba.ntmps10
    go_wp2
    go_ret2
    exact ⟨rfl, 0, rfl⟩
  · have a' : (n == 0) = false := by simp [a]
    have b' : 64 < n := by omega
    have e1 : hiF hi n = hi := by simp [hiF, a, b]
    have e2 : loF lo n = bits BinOp.andNot IntKind.u64 lo (IntKind.u64.wrap (IntKind.u64.wrap (2 ^ (128 - n).toNat) - 1)) := by simp [loF, b]
    rw [e1, e2]
    clear e1 e2
    go_enter Yba.func10, Yba.ntmps10
    go_wp2
    go_quiet (fail)
    go_wp2
    go_ret2
    exact ⟨rfl, _, rfl⟩
end Go.Proofs.Ybulkbnry
