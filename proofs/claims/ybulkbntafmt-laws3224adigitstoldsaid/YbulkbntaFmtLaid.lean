import Derived.Test.YbulkbntaFmtRows
import Derived.Deep.DeepWitnessRowRef
import Derived.Lib.LaidIn
import Derived.Great.LaidInts
import Derived.ProofKit
namespace Go.Proofs.YbulkbntaFmt
open Go.Great

def outOfRange : List UInt8 := [118, 97, 108, 117, 101, 32, 111, 117, 116, 32, 111, 102, 32, 114, 97, 110, 103, 101]
def wrongForm : List UInt8 := [105, 110, 118, 97, 108, 105, 100, 32, 115, 121, 110, 116, 97, 120]
def tab32 : List Int := [0, 1, 28, 2, 29, 14, 24, 3, 30, 22, 20, 15, 25, 17, 4, 8, 31, 27, 13, 23, 21, 19, 16, 7, 26, 12, 18, 6, 11, 5, 10, 9]
def tab64 : List Int := [0, 1, 56, 2, 57, 49, 28, 3, 61, 58, 42, 50, 38, 29, 17, 4, 62, 47, 59, 36, 45, 43, 51, 22, 53, 39, 33, 30, 24, 18, 12, 5, 63, 55, 48, 27, 60, 41, 37, 16, 46, 35, 44, 21, 52, 32, 23, 11, 54, 26, 40, 15, 34, 20, 31, 10, 25, 14, 19, 9, 13, 8, 7, 6]
def tab10 : List Int := [1, 10, 100, 1000, 10000, 100000, 1000000, 10000000, 100000000, 1000000000, 10000000000, 100000000000, 1000000000000, 10000000000000, 100000000000000, 1000000000000000, 10000000000000000, 100000000000000000, 1000000000000000000, 10000000000000000000]

/-- A world in which the five listed variables hold what the row lists. -/
noncomputable def laidWorld (os : Os) : World :=
  let N := (World.settled Ybaf.prog os).heap.size
  let w0 := World.holding Ybaf.prog os ⟨#[.cells #[.string ⟨outOfRange.toArray⟩] 47, .cells #[.string ⟨wrongForm.toArray⟩] 47], #[], []⟩
  let put (h : Array Obj) (g : Nat) (cs : Array Value) : Array Obj := h.modify g fun
    | .cells _ t frozen => .cells cs t frozen
    | o => o
  let h0 := put (put w0.heap 0 #[.iface 45 (.pointer (some ⟨N + 1, 0, none⟩))]) 1 #[.iface 45 (.pointer (some ⟨N, 0, none⟩))]
  let h1 := put (put (put h0 2 (tab10.map (Value.int .u64)).toArray) 3 (tab32.map (Value.int .u8)).toArray) 4 (tab64.map (Value.int .u8)).toArray
  { w0 with heap := h1 }

def laidAll {H : Type} : List (String × DataW H) := [("math/bits.deBruijn32tab", Rows.laid_math_bits_deBruijn32tab), ("math/bits.deBruijn64tab", Rows.laid_math_bits_deBruijn64tab), ("internal/strconv.uint64pow10", Rows.laid_internal_strconv_uint64pow10), ("strconv.ErrRange", Rows.laid_strconv_ErrRange), ("strconv.ErrSyntax", Rows.laid_strconv_ErrSyntax)]
noncomputable abbrev N0 : Nat := (World.settled Ybaf.prog default).heap.size
set_option maxRecDepth 1000000 in
theorem laid_in (os : Os) (args : Array Value) : LaidIn Ybaf.prog ((laidWorld os).forCall (fun _ _ => 0) ⟨#[], args, []⟩).memory laidAll [3, 4, 2, 1, N0, 0, N0 + 1] :=
  LaidIn.of_run [3, 4, 2, 1, N0, 0, N0 + 1] 10 (by kernel_rfl) (by kernel_rfl) (by kernel_rfl) (by kernel_rfl)

theorem witness_any (os : Os) {H : Type} (enc : TypeId × Value → H) :
    (OpenSpec.ofChange Rows.lawS3224AAnyStringSpec).preRow enc Ybaf.prog Ybaf.f3 Rows.lawS3224AAnyStringRow.domain false Rows.lawS3224AAnyStringRow.laid ((laidWorld os).forCall (fun _ _ => 0) ⟨#[], #[.string ⟨#[]⟩, .int .i64 0, .bool false], []⟩).memory #[.string ⟨#[]⟩, .int .i64 0, .bool false] := by
  have hw : (DataW.whole enc Ybaf.prog ((laidWorld os).forCall (fun _ _ => 0) ⟨#[], #[.string ⟨#[]⟩, .int .i64 0, .bool false], []⟩).memory Ybaf.f3.params.toList (OpenSpec.ofChange Rows.lawS3224AAnyStringSpec).vars false #[Value.string ⟨#[]⟩, .int .i64 0, .bool false].toList 8).map (fun x => (x.1, x.2.1)) =
      some ([.lit (.string []), .lit (.int .i64 0), .lit (.bool false)], []) := by kernel_rfl
  obtain ⟨⟨x1, x2, x3⟩, hx, hx1⟩ := Option.map_eq_some_iff.1 hw
  simp only [Prod.mk.injEq] at hx1
  obtain ⟨rfl, rfl⟩ := hx1
  exact OpenSpec.preRow_of_cond 8 hx (by kernel_rfl) (fun k hk => by cases hk) (by kernel_rfl) (laid_in os _).met

theorem witness_digits (os : Os) {H : Type} (enc : TypeId × Value → H) :
    (OpenSpec.ofChange Rows.lawS3224ADigitsSpec).preRow enc Ybaf.prog Ybaf.f4 Rows.lawS3224ADigitsRow.domain false Rows.lawS3224ADigitsRow.laid ((laidWorld os).forCall (fun _ _ => 0) ⟨#[], #[.slice none 0 0, .bool false, .int .i64 0, .bool false], []⟩).memory #[.slice none 0 0, .bool false, .int .i64 0, .bool false] := by
  have hw : (DataW.whole enc Ybaf.prog ((laidWorld os).forCall (fun _ _ => 0) ⟨#[], #[.slice none 0 0, .bool false, .int .i64 0, .bool false], []⟩).memory Ybaf.f4.params.toList (OpenSpec.ofChange Rows.lawS3224ADigitsSpec).vars false #[Value.slice none 0 0, .bool false, .int .i64 0, .bool false].toList 8).map (fun x => (x.1, x.2.1)) =
      some ([.nil, .lit (.bool false), .lit (.int .i64 0), .lit (.bool false)], []) := by kernel_rfl
  obtain ⟨⟨x1, x2, x3⟩, hx, hx1⟩ := Option.map_eq_some_iff.1 hw
  simp only [Prod.mk.injEq] at hx1
  obtain ⟨rfl, rfl⟩ := hx1
  exact OpenSpec.preRow_of_cond 8 hx (by kernel_rfl) (fun k hk => by cases hk) (by kernel_rfl) (laid_in os _).met
end Go.Proofs.YbulkbntaFmt
