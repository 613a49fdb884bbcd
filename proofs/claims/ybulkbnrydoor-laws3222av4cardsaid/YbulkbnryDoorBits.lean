import Derived.Test.YbulkbnryDoorProg
import Derived.WalkKit
import Derived.WalkLawsBesides
namespace Go.Proofs.YbulkbnryDoor
open Go.RowKit

/-- A number's upper bits, the k lowest struck. -/
def m64 (k : Nat) (x : Int) : Int := bits .and .u64 x (IntKind.u64.wrap (18446744073709551615 * 2 ^ k))
def m32 (k : Nat) (x : Int) : Int := bits .and .u32 x (IntKind.u32.wrap (4294967295 * 2 ^ k))
/-- The first address of the network of b bits. -/
def m6 (hi lo : Int) (b : Nat) : Int × Int := if b ≤ 64 then (m64 (64 - b) hi, 0) else (hi, m64 (128 - b) lo)
def m4 (a : Int) (b : Nat) : Int := m32 (32 - b) a

theorem not64 : ∀ k, k < 65 → BitVec.ofInt 64 (IntKind.u64.wrap (18446744073709551615 * 2 ^ k)) = ~~~ BitVec.ofInt 64 (IntKind.u64.wrap (IntKind.u64.wrap (2 ^ k) - 1)) := by decide +kernel
theorem not32 : ∀ k, k < 33 → BitVec.ofInt 32 (IntKind.u32.wrap (4294967295 * 2 ^ k)) = ~~~ BitVec.ofInt 32 ((2 ^ k - 1) % 4294967296) := by decide +kernel
theorem andNot64 (k : Nat) (x : Int) (hk : k ≤ 64) : bits .andNot .u64 x (IntKind.u64.wrap (IntKind.u64.wrap (2 ^ k) - 1)) = m64 k x := by
  have h := not64 k (by omega)
  unfold m64 bits
  show IntKind.u64.wrap ((BitVec.ofInt 64 x &&& ~~~ BitVec.ofInt 64 _).toNat) = IntKind.u64.wrap ((BitVec.ofInt 64 x &&& BitVec.ofInt 64 _).toNat)
  rw [h]
theorem andNot32 (k : Nat) (x : Int) (hk : k ≤ 32) : bits .andNot .u32 x ((2 ^ k - 1) % 4294967296) = m32 k x := by
  have h := not32 k (by omega)
  unfold m32 bits
  show IntKind.u32.wrap ((BitVec.ofInt 32 x &&& ~~~ BitVec.ofInt 32 _).toNat) = IntKind.u32.wrap ((BitVec.ofInt 32 x &&& BitVec.ofInt 32 _).toNat)
  rw [h]

set_option maxRecDepth 100000 in
theorem mask6_any (hi lo : Int) (b : Nat) (w : World) (hb : b ≤ 128) :
    Calls Ybad.prog 12 #[.int .u64 hi, .int .u64 lo, .int .i64 b] w fun e w' => e = .returned (.tuple #[.int .u64 (m6 hi lo b).1, .int .u64 (m6 hi lo b).2]) ∧ w' = w := by
  by_cases h : b ≤ 64
  · have e : m6 hi lo b = (m64 (64 - b) hi, 0) := by unfold m6; rw [if_pos h]
    rw [e]
    unfold m64
    go_enter Ybad.func12, Ybad.ntmps12
    go_wp2
    go_ret2
    exact ⟨rfl, rfl⟩
  · have e : m6 hi lo b = (hi, m64 (128 - b) lo) := by unfold m6; rw [if_neg h]
    rw [e]
    unfold m64
    go_enter Ybad.func12, Ybad.ntmps12
    go_wp2
    go_ret2
    exact ⟨rfl, rfl⟩
set_option maxRecDepth 100000 in
theorem first6_any (hi lo : Int) (b : Nat) (w : World) (hb : b ≤ 128) :
    Calls Ybad.prog 30 #[.int .u64 hi, .int .u64 lo, .int .u8 b] w fun e w' => e = .returned (.tuple #[.int .u64 (m6 hi lo b).1, .int .u64 (m6 hi lo b).2]) ∧ w' = w := by
  by_cases h : b ≤ 64
  · have e : m6 hi lo b = (m64 (64 - b) hi, 0) := by unfold m6; rw [if_pos h]
    rw [e, ← andNot64 (64 - b) hi (by omega)]
    go_enter Ybad.func30, Ybad.ntmps30
    go_wp2
    go_ret2
    exact ⟨rfl, rfl⟩
  · have e : m6 hi lo b = (hi, m64 (128 - b) lo) := by unfold m6; rw [if_neg h]
    rw [e, ← andNot64 (128 - b) lo (by omega)]
    go_enter Ybad.func30, Ybad.ntmps30
    go_wp2
    go_ret2
    exact ⟨rfl, rfl⟩
set_option maxRecDepth 100000 in
theorem mask4_any (a : Int) (b : Nat) (w : World) (hb : b ≤ 32) :
    Calls Ybad.prog 5 #[.int .u32 a, .int .i64 b] w fun e w' => e = .returned (.int .u32 (m4 a b)) ∧ w' = w := by
  unfold m4 m32
  go_enter Ybad.func5, Ybad.ntmps5
  go_wp2
  go_ret
  exact ⟨rfl, rfl⟩
set_option maxRecDepth 100000 in
theorem first4_any (a : Int) (b : Nat) (w : World) (hb : b ≤ 32) :
    Calls Ybad.prog 27 #[.int .u32 a, .int .u8 b] w fun e w' => e = .returned (.int .u32 (m4 a b)) ∧ w' = w := by
  unfold m4
  rw [← andNot32 (32 - b) a (by omega)]
  go_enter Ybad.func27, Ybad.ntmps27
  go_wp2
  go_ret
  exact ⟨rfl, rfl⟩
end Go.Proofs.YbulkbnryDoor
