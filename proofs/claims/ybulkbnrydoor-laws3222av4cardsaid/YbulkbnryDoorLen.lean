import Derived.Shelf.Small.Bits
import Derived.Lib.ItoaNum
import Derived.Test.YbulkbnryDoorHeap
namespace Go.Proofs
open Go.Shelf
def Ybad.lays125_ren : Go.Shelf.Ren := ⟨fun | 125 => 22 | 128 => 44 | 129 => 45 | n => n, fun | 46 => 36 | 51 => 24 | 53 => 35 | n => n, fun | n => n⟩
theorem Ybad.lays125 : Go.Proofs.Lays.n125 Ybad.prog Ybad.lays125_ren := {
  mixed := by kernel_rfl
  f125 := Ybad.func22.trans (congrArg some (by kernel_rfl))
  f128 := Ybad.func44.trans (congrArg some (by kernel_rfl))
  f129 := Ybad.func45.trans (congrArg some (by kernel_rfl))
  t3 := Ybad.underlying3
  a3 := Ybad.isAgg3
  z3 := Ybad.sizeOf3
  v3 := Ybad.zeroValue3
  t4 := Ybad.underlying4
  a4 := Ybad.isAgg4
  z4 := Ybad.sizeOf4
  v4 := Ybad.zeroValue4
  t5 := Ybad.underlying5
  a5 := Ybad.isAgg5
  z5 := Ybad.sizeOf5
  v5 := Ybad.zeroValue5
  t9 := Ybad.underlying9
  a9 := Ybad.isAgg9
  z9 := Ybad.sizeOf9
  v9 := Ybad.zeroValue9
  t46 := Ybad.underlying36
  a46 := Ybad.isAgg36
  z46 := Ybad.sizeOf36
  v46 := Ybad.zeroValue36
  t51 := Ybad.underlying24
  a51 := Ybad.isAgg24
  z51 := Ybad.sizeOf24
  v51 := Ybad.zeroValue24
  t53 := Ybad.underlying35
  a53 := Ybad.isAgg35
  z53 := Ybad.sizeOf35
  v53 := Ybad.zeroValue35 }
end Go.Proofs
namespace Go.Proofs.YbulkbnryDoor
open Go.RowKit
set_option linter.unusedSimpArgs false
set_option linter.unusedVariables false
theorem len22 (x : Nat) (w : World) (h0 : 0 < x) (hx : x ≤ 100000) :
    Calls Ybad.prog 22 #[.int .u64 x] w fun e w' => (∃ k : Nat, e = .returned (.int .i64 k) ∧ x < 2 ^ k ∧ 2 ^ k ≤ 2 * x ∧ k ≤ 17) ∧ w' = w := by
  refine (Any.bits_Len Ybad.lays125 (x : Int) w (by omega) (by omega)).mono ?_
  rintro e w' ⟨rfl, rfl⟩
  refine ⟨⟨Lib.bitLen (x : Int).toNat, rfl, ?_⟩, rfl⟩
  rw [Int.toNat_natCast]
  obtain ⟨h1, h2, h3⟩ := Lib.bitLenAux_bounds 64 x (by omega) (by omega)
  have e : Lib.bitLen x = Lib.bitLenAux 64 x := rfl
  rw [← e] at h1 h2 h3
  generalize Lib.bitLen x = k at h1 h2 h3
  obtain ⟨m, rfl⟩ : ∃ m, k = m + 1 := ⟨k - 1, by omega⟩
  refine ⟨h3, ?_, ?_⟩
  · rw [Nat.pow_succ]; simp at h2; omega
  · simp at h2
    refine Decidable.byContradiction fun hc => ?_
    have : 2 ^ 17 ≤ 2 ^ m := Nat.pow_le_pow_right (by decide) (by omega)
    omega
theorem wrap_pow (k : Nat) (hk : k ≤ 17) : IntKind.u64.wrap ((2 : Int) ^ k) = ((2 ^ k : Nat) : Int) := by
  have h : (2 : Nat) ^ k ≤ 2 ^ 17 := Nat.pow_le_pow_right (by decide) hk
  rw [show ((2 : Int) ^ k) = ((2 ^ k : Nat) : Int) by push_cast; rfl]
  generalize (2 : Nat) ^ k = p at h
  exact u64_wrap_id _ (by omega) (by omega)
set_option maxRecDepth 100000 in
theorem pow63 (x : Nat) (w : World) (h0 : 0 < x) (hx : x ≤ 100000) :
    Calls Ybad.prog 63 #[.int .i64 x] w fun e w' => (∃ m : Nat, e = .returned (.int .u64 m) ∧ x < m ∧ m ≤ 2 * x) ∧ w' = w := by
  go_enter Ybad.func63, Ybad.ntmps63
  go_wp2_with fail
  go_at_call 22
  refine (len22 x _ h0 hx).mono ?_
  rintro e w' ⟨⟨k, rfl, k1, k2, k3⟩, hw'⟩
  obtain rfl := hw'.symm
  have hp := wrap_pow k k3
  generalize 2 ^ k = m at hp k1 k2
  go_wp2
  go_ret
  exact ⟨⟨m, rfl, k1, k2⟩, rfl⟩
end Go.Proofs.YbulkbnryDoor
