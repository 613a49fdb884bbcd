import Derived.Test.YbulkbntaFmtProg
import Derived.Stop.CallBack
import Derived.Stop.IfaceNil
import Derived.WalkKit
import Derived.WalkLawsBesides
namespace Go.Proofs.YbulkbntaFmt
open Go.RowKit Go.Extern.Stop Go.Stop Go.Extern

theorem call11 (args : Array Value) (w : World) : (callFunc 11 args).run Ybaf.prog w = ((FmtStop.errorf #[9, 39] #[31] args).run Ybaf.prog w).andThen fun v w' => .ok (.value v) w' :=
  run_callFunc_extern Ybaf.func11 (by kernel_rfl) (by kernel_rfl) (by kernel_rfl) (by kernel_rfl) args w
theorem guard (name : String) (w : World) : (FmtStop.guard name).run Ybaf.prog w = .ok () w := by kernel_rfl
def shape9 : List UInt8 := [12, 6, 0, 0, 0, 0, 0, 0, 0, 115, 116, 114, 105, 110, 103]
theorem op9 (name : String) (x : ByteArray) (w : World) : (FmtStop.operand name true 115 false (.iface 9 (.string x))).run Ybaf.prog w = .ok (shape9, FmtStop.pack x.data.toList) w := by kernel_rfl
def shape2 : List UInt8 := [5, 5, 0, 0, 0, 0, 0, 0, 0, 105, 110, 116, 54, 52]
theorem ptr45 (w : World) : (FmtStop.ptrTo "errors.errorString").run Ybaf.prog w = .ok 45 w := by kernel_rfl
theorem elem45 (w : World) : (elemOf 45).run Ybaf.prog w = .ok 47 w := by kernel_rfl
theorem pos_r (w : World) : (FmtDoors.printed ⟨#[37, 115, 32, 105, 115, 32, 110, 111, 116, 32, 112, 111, 115, 105, 116, 105, 118, 101]⟩ 1).run Ybaf.prog w = .ok [(0, 115, false)] w := by kernel_rfl
theorem pos_p : FmtStop.printed? ⟨#[37, 115, 32, 105, 115, 32, 110, 111, 116, 32, 112, 111, 115, 105, 116, 105, 118, 101]⟩ 1 = some [(0, 115, false)] := by kernel_rfl
theorem whole_r (w : World) : (FmtDoors.printed ⟨#[37, 115, 32, 105, 115, 32, 110, 111, 116, 32, 97, 32, 119, 104, 111, 108, 101, 32, 110, 117, 109, 98, 101, 114, 32, 111, 102, 32, 115, 104, 97, 114, 101, 115, 32, 119, 114, 105, 116, 116, 101, 110, 32, 105, 110, 32, 100, 105, 103, 105, 116, 115]⟩ 1).run Ybaf.prog w = .ok [(0, 115, false)] w := by kernel_rfl
theorem whole_p : FmtStop.printed? ⟨#[37, 115, 32, 105, 115, 32, 110, 111, 116, 32, 97, 32, 119, 104, 111, 108, 101, 32, 110, 117, 109, 98, 101, 114, 32, 111, 102, 32, 115, 104, 97, 114, 101, 115, 32, 119, 114, 105, 116, 116, 101, 110, 32, 105, 110, 32, 100, 105, 103, 105, 116, 115]⟩ 1 = some [(0, 115, false)] := by kernel_rfl
theorem neg_r (w : World) : (FmtDoors.printed ⟨#[37, 115, 32, 105, 115, 32, 110, 101, 103, 97, 116, 105, 118, 101]⟩ 1).run Ybaf.prog w = .ok [(0, 115, false)] w := by kernel_rfl
theorem neg_p : FmtStop.printed? ⟨#[37, 115, 32, 105, 115, 32, 110, 101, 103, 97, 116, 105, 118, 101]⟩ 1 = some [(0, 115, false)] := by kernel_rfl
theorem abv_r (w : World) : (FmtDoors.printed ⟨#[37, 115, 32, 105, 115, 32, 97, 98, 111, 118, 101, 32, 37, 100]⟩ 2).run Ybaf.prog w = .ok [(0, 115, false), (1, 100, false)] w := by kernel_rfl
theorem abv_p : FmtStop.printed? ⟨#[37, 115, 32, 105, 115, 32, 97, 98, 111, 118, 101, 32, 37, 100]⟩ 2 = some [(0, 115, false), (1, 100, false)] := by kernel_rfl
theorem op2 (name : String) (x : Int) (w : World) : (FmtStop.operand name true 100 false (.iface 2 (.int .i64 x))).run Ybaf.prog w = .ok (shape2, Go.Extern.Stop.digits 8 (x % 2 ^ 64).toNat) w := by kernel_rfl

set_option maxRecDepth 100000 in
set_option maxHeartbeats 400000 in
theorem errorf_pos (F : Interp) (x : ByteArray) (blk : Nat) (w : World) (hF : F.answers w.tape) (hc : w.cell? ⟨blk, 0, none⟩ = some (.iface 9 (.string x))) :
    Calls Ybaf.prog 9 #[.string ⟨#[37, 115, 32, 105, 115, 32, 110, 111, 116, 32, 112, 111, 115, 105, 116, 105, 118, 101]⟩, .slice (some ⟨blk, 0, none⟩) 1 1] w fun e w' => ∃ N, e = .returned (.iface 45 (.pointer (some ⟨N, 0, none⟩))) ∧ Below w.heap.size w w' := by
  have hF' : ∀ i name reading k range, w.tape i (.extern (word name reading k) range) = F name reading k := hF
  have h1 := call11
  have h2 := guard
  have h3 := op9
  have h4 := ptr45
  have h5 := elem45
  have h6 := pos_r
  have h7 := pos_p
  clear hF
  go_enter Ybaf.func9, Ybaf.ntmps9
  go_wp2
  go_ret
  first | exact ⟨_, rfl, ((Below.refl _ _).alloc (Nat.le_refl _) _).drew⟩ | exact ⟨⟨_, rfl⟩, ((Below.refl _ _).alloc (Nat.le_refl _) _).drew⟩

set_option maxRecDepth 100000 in
set_option maxHeartbeats 400000 in
theorem errorf_whole (F : Interp) (x : ByteArray) (blk : Nat) (w : World) (hF : F.answers w.tape) (hc : w.cell? ⟨blk, 0, none⟩ = some (.iface 9 (.string x))) :
    Calls Ybaf.prog 9 #[.string ⟨#[37, 115, 32, 105, 115, 32, 110, 111, 116, 32, 97, 32, 119, 104, 111, 108, 101, 32, 110, 117, 109, 98, 101, 114, 32, 111, 102, 32, 115, 104, 97, 114, 101, 115, 32, 119, 114, 105, 116, 116, 101, 110, 32, 105, 110, 32, 100, 105, 103, 105, 116, 115]⟩, .slice (some ⟨blk, 0, none⟩) 1 1] w fun e w' => ∃ N, e = .returned (.iface 45 (.pointer (some ⟨N, 0, none⟩))) ∧ Below w.heap.size w w' := by
  have hF' : ∀ i name reading k range, w.tape i (.extern (word name reading k) range) = F name reading k := hF
  have h1 := call11
  have h2 := guard
  have h3 := op9
  have h4 := ptr45
  have h5 := elem45
  have h6 := whole_r
  have h7 := whole_p
  clear hF
  go_enter Ybaf.func9, Ybaf.ntmps9
  go_wp2
  go_ret
  first | exact ⟨_, rfl, ((Below.refl _ _).alloc (Nat.le_refl _) _).drew⟩ | exact ⟨⟨_, rfl⟩, ((Below.refl _ _).alloc (Nat.le_refl _) _).drew⟩

set_option maxRecDepth 100000 in
set_option maxHeartbeats 400000 in
theorem errorf_neg (F : Interp) (x : ByteArray) (blk : Nat) (w : World) (hF : F.answers w.tape) (hc : w.cell? ⟨blk, 0, none⟩ = some (.iface 9 (.string x))) :
    Calls Ybaf.prog 9 #[.string ⟨#[37, 115, 32, 105, 115, 32, 110, 101, 103, 97, 116, 105, 118, 101]⟩, .slice (some ⟨blk, 0, none⟩) 1 1] w fun e w' => ∃ N, e = .returned (.iface 45 (.pointer (some ⟨N, 0, none⟩))) ∧ Below w.heap.size w w' := by
  have hF' : ∀ i name reading k range, w.tape i (.extern (word name reading k) range) = F name reading k := hF
  have h1 := call11
  have h2 := guard
  have h3 := op9
  have h4 := ptr45
  have h5 := elem45
  have h6 := neg_r
  have h7 := neg_p
  clear hF
  go_enter Ybaf.func9, Ybaf.ntmps9
  go_wp2
  go_ret
  first | exact ⟨_, rfl, ((Below.refl _ _).alloc (Nat.le_refl _) _).drew⟩ | exact ⟨⟨_, rfl⟩, ((Below.refl _ _).alloc (Nat.le_refl _) _).drew⟩

set_option maxRecDepth 100000 in
set_option maxHeartbeats 400000 in
theorem errorf_abv (F : Interp) (x : ByteArray) (blk : Nat) (w : World) (hF : F.answers w.tape) (hc : w.cell? ⟨blk, 0, none⟩ = some (.iface 9 (.string x))) (hc1 : w.cell? ⟨blk, 1, none⟩ = some (.iface 2 (.int .i64 9223372036854775807))) :
    Calls Ybaf.prog 9 #[.string ⟨#[37, 115, 32, 105, 115, 32, 97, 98, 111, 118, 101, 32, 37, 100]⟩, .slice (some ⟨blk, 0, none⟩) 2 2] w fun e w' => ∃ N, e = .returned (.iface 45 (.pointer (some ⟨N, 0, none⟩))) ∧ Below w.heap.size w w' := by
  have hF' : ∀ i name reading k range, w.tape i (.extern (word name reading k) range) = F name reading k := hF
  have h1 := call11
  have h2 := guard
  have h3 := op9
  have h4 := ptr45
  have h5 := elem45
  have h6 := abv_r
  have h7 := abv_p
  have h8 := op2
  go_enter Ybaf.func9, Ybaf.ntmps9
  go_wp2
  go_ret
  first | exact ⟨_, rfl, ((Below.refl _ _).alloc (Nat.le_refl _) _).drew⟩ | exact ⟨⟨_, rfl⟩, ((Below.refl _ _).alloc (Nat.le_refl _) _).drew⟩

set_option maxRecDepth 100000 in
theorem errorsNew_any (x : ByteArray) (w : World) :
    Calls Ybaf.prog 12 #[.string x] w fun e w' => ∃ N, e = .returned (.iface 45 (.pointer (some ⟨N, 0, none⟩))) ∧ Below w.heap.size w w' := by
  go_enter Ybaf.func12, Ybaf.ntmps12
  go_wp2
  go_ret
  exact ⟨_, rfl, (Below.refl _ _).alloc (Nat.le_refl _) _⟩
end Go.Proofs.YbulkbntaFmt
