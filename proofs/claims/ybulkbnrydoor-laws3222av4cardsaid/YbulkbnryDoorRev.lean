import Derived.Test.YbulkbnryDoorHeap
namespace Go.Proofs.YbulkbnryDoor
open Go.RowKit
set_option linter.unusedSimpArgs false
set_option linter.unusedVariables false

set_option maxRecDepth 100000 in
set_option maxHeartbeats 1600000 in
theorem reverse39 (B off n cap a b : Nat) (G : Nat → Int) (w : World) (h : Hid (R64 w w B off n G)) (hab : a < b) (hb : b ≤ n) (hn : n ≤ 100000) :
    Calls Ybad.prog 39 #[.slice (some ⟨B, off, none⟩) n cap, .int .i64 a, .int .i64 b] w fun e w' => e = .returned (.tuple #[]) ∧ ∃ G', Hid (R64 w w' B off n G') ∧ Hid (Same a b G G') := by
  go_enter Ybad.func39, Ybad.ntmps39
  go_wp2
  go_loopw [6, 7] (fun vi vj wr => ∃ (i j : Nat) (G' : Nat → Int), vi = .int .i64 i ∧ vj = .int .i64 j ∧ a ≤ i ∧ i ≤ j + 1 ∧ j < b ∧ Hid (R64 w wr B off n G') ∧ Hid (Same a b G G')) (fun vi vj _ => (intOf vj + 1 - intOf vi).toNat)
  case atStart => exact ⟨a, b - 1, G, rfl, by congr 1; omega, Nat.le_refl _, by omega, by omega, h, Same.refl _ _ _⟩
  case round =>
    obtain ⟨i, j, G1, rfl, rfl, hi, hij, hj, hr, hs⟩ := hrel
    by_cases hlt : i < j
    · have hcw := hr.out.cell
      have hfw := hr.out.frz
      have hsx : Hid (Same a b G (sw G1 i j)) := hs.out.trans (Same.sw G1 (by omega) (by omega) (by omega) (by omega))
      have r3 : Hid (R64 w ((wr.setCell ⟨B, off + i, none⟩ (.int .u64 (G1 j))).setCell ⟨B, off + j, none⟩ (.int .u64 (G1 i))).drew B off n (sw G1 i j)) := hr.out.swapd i j (by omega) (by omega)
      go_wp2_with fail
      go_region
      go_wp2
      go_roundw
      case rel => exact ⟨i + 1, j - 1, _, by simp, by congr 1; omega, by omega, by omega, by omega, r3, hsx⟩
      case measure => simp [intOf]; omega
    · go_wp2
      go_end0
      exact ⟨rfl, G1, hr, hs⟩
end Go.Proofs.YbulkbnryDoor
