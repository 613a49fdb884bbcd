import Derived.Test.YbulkbnryDoorPdq
namespace Go.Proofs.YbulkbnryDoor
open Go.RowKit
set_option linter.unusedSimpArgs false
set_option linter.unusedVariables false

set_option maxRecDepth 100000 in
theorem sort4 (B off n cap : Nat) (G : Nat → Int) (w : World) (h : Hid (R64 w w B off n G)) (h0 : 0 < n) (hn : n ≤ 100000) :
    Calls Ybad.prog 6 #[.slice (some ⟨B, off, none⟩) n cap] w fun e w' => e = .returned (.tuple #[]) ∧ ∃ G', Hid (R64 w w' B off n G') ∧ Hid (Same 0 n G G') ∧ Hid (Srt 0 n G') := by
  have hL : Hid (Lft 0 n G) := fun h => by omega
  go_enter Ybad.func6, Ybad.ntmps6
  go_wp2_with fail
  go_at_call 22
  refine (len22 n _ h0 hn).mono ?_
  rintro e w' ⟨⟨k, rfl, k1, k2, k3⟩, hw'⟩
  obtain rfl := hw'.symm
  clear hw' k1 k2
  go_wp2_with fail
  go_at_call 21
  refine (pdq21 (n - 0) B off n cap 0 n k G _ h (Nat.zero_le _) (Nat.le_refl _) hn (by omega) (Nat.le_refl _) hL).mono ?_
  rintro e w2 ⟨rfl, G2, r2, s2, o2⟩
  go_wp2
  go_end0
  exact ⟨rfl, G2, r2, s2, o2⟩
end Go.Proofs.YbulkbnryDoor
