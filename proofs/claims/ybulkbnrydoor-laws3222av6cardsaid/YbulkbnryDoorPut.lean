import Derived.Test.YbulkbnryDoorKept
import Derived.Test.YbulkbnryDoorProg
import Derived.WalkLawsBesides
import Derived.Lib.EndianBits
namespace Go.Proofs.YbulkbnryDoor
open Go.RowKit
set_option linter.unusedSimpArgs false
set_option linter.unusedVariables false

/-- The eight bytes of v, the greatest first, at place o of block g. -/
structure Bytes (w : World) (g o v : Nat) : Prop where
  c0 : w.cell? ⟨g, o, none⟩ = some (.int .u8 (((v : Nat) : Int) / 72057594037927936))
  c1 : w.cell? ⟨g, o + 1, none⟩ = some (.int .u8 (((v : Nat) : Int) / 281474976710656 % 256))
  c2 : w.cell? ⟨g, o + 2, none⟩ = some (.int .u8 (((v : Nat) : Int) / 1099511627776 % 256))
  c3 : w.cell? ⟨g, o + 3, none⟩ = some (.int .u8 (((v : Nat) : Int) / 4294967296 % 256))
  c4 : w.cell? ⟨g, o + 4, none⟩ = some (.int .u8 (((v : Nat) : Int) / 16777216 % 256))
  c5 : w.cell? ⟨g, o + 5, none⟩ = some (.int .u8 (((v : Nat) : Int) / 65536 % 256))
  c6 : w.cell? ⟨g, o + 6, none⟩ = some (.int .u8 (((v : Nat) : Int) / 256 % 256))
  c7 : w.cell? ⟨g, o + 7, none⟩ = some (.int .u8 (((v : Nat) : Int) % 256))
/-- Eight cells that may be written. -/
structure Room (w : World) (g o : Nat) : Prop where
  r0 : ∃ x, w.cell? ⟨g, o, none⟩ = some x
  r1 : ∃ x, w.cell? ⟨g, o + 1, none⟩ = some x
  r2 : ∃ x, w.cell? ⟨g, o + 2, none⟩ = some x
  r3 : ∃ x, w.cell? ⟨g, o + 3, none⟩ = some x
  r4 : ∃ x, w.cell? ⟨g, o + 4, none⟩ = some x
  r5 : ∃ x, w.cell? ⟨g, o + 5, none⟩ = some x
  r6 : ∃ x, w.cell? ⟨g, o + 6, none⟩ = some x
  r7 : ∃ x, w.cell? ⟨g, o + 7, none⟩ = some x
  z0 : w.frozen? ⟨g, o, none⟩ = false
  z1 : w.frozen? ⟨g, o + 1, none⟩ = false
  z2 : w.frozen? ⟨g, o + 2, none⟩ = false
  z3 : w.frozen? ⟨g, o + 3, none⟩ = false
  z4 : w.frozen? ⟨g, o + 4, none⟩ = false
  z5 : w.frozen? ⟨g, o + 5, none⟩ = false
  z6 : w.frozen? ⟨g, o + 6, none⟩ = false
  z7 : w.frozen? ⟨g, o + 7, none⟩ = false

def putBytes (w : World) (g o v : Nat) : World := ((((((((w.setCell ⟨g, o, none⟩ (.int .u8 (((v : Nat) : Int) / 72057594037927936))).setCell ⟨g, o + 1, none⟩ (.int .u8 (((v : Nat) : Int) / 281474976710656 % 256))).setCell ⟨g, o + 2, none⟩ (.int .u8 (((v : Nat) : Int) / 1099511627776 % 256))).setCell ⟨g, o + 3, none⟩ (.int .u8 (((v : Nat) : Int) / 4294967296 % 256))).setCell ⟨g, o + 4, none⟩ (.int .u8 (((v : Nat) : Int) / 16777216 % 256))).setCell ⟨g, o + 5, none⟩ (.int .u8 (((v : Nat) : Int) / 65536 % 256))).setCell ⟨g, o + 6, none⟩ (.int .u8 (((v : Nat) : Int) / 256 % 256))).setCell ⟨g, o + 7, none⟩ (.int .u8 (((v : Nat) : Int) % 256)))
theorem putBytes_kept (w : World) (g o v : Nat) : Kept [g] w (putBytes w g o v) := by
  unfold putBytes
  exact (((((((((Kept.refl _ _).setCell (p := ⟨g, o, none⟩) (.inl (by simp)) _).setCell (p := ⟨g, o + 1, none⟩) (.inl (by simp)) _).setCell (p := ⟨g, o + 2, none⟩) (.inl (by simp)) _).setCell (p := ⟨g, o + 3, none⟩) (.inl (by simp)) _).setCell (p := ⟨g, o + 4, none⟩) (.inl (by simp)) _).setCell (p := ⟨g, o + 5, none⟩) (.inl (by simp)) _).setCell (p := ⟨g, o + 6, none⟩) (.inl (by simp)) _).setCell (p := ⟨g, o + 7, none⟩) (.inl (by simp)) _)
theorem set_other (w : World) (g p j : Nat) (v : Value) (h : ¬ p = j) : (w.setCell ⟨g, p, none⟩ v).cell? ⟨g, j, none⟩ = w.cell? ⟨g, j, none⟩ :=
  World.cell?_setCell_other w _ _ v (fun e => h (Addr.mk.inj e).2.1)
theorem putBytes_other (w : World) (g o v j : Nat) (hj : j < o ∨ o + 8 ≤ j) : (putBytes w g o v).cell? ⟨g, j, none⟩ = w.cell? ⟨g, j, none⟩ := by
  unfold putBytes
  simp (disch := omega) only [set_other]
theorem putBytes_frozen (w : World) (g o v j : Nat) : (putBytes w g o v).frozen? ⟨g, j, none⟩ = w.frozen? ⟨g, j, none⟩ := by
  unfold putBytes
  simp [go_sem]
theorem putBytes_bytes (w : World) (g o v : Nat) (hr : Room w g o) : Bytes (putBytes w g o v) g o v := by
  obtain ⟨x0, c0⟩ := hr.r0
  obtain ⟨x1, c1⟩ := hr.r1
  obtain ⟨x2, c2⟩ := hr.r2
  obtain ⟨x3, c3⟩ := hr.r3
  obtain ⟨x4, c4⟩ := hr.r4
  obtain ⟨x5, c5⟩ := hr.r5
  obtain ⟨x6, c6⟩ := hr.r6
  obtain ⟨x7, c7⟩ := hr.r7
  unfold putBytes
  refine ⟨?_, ?_, ?_, ?_, ?_, ?_, ?_, ?_⟩ <;> go_simp

set_option maxRecDepth 100000 in
set_option maxHeartbeats 1600000 in
theorem put69 (g o n c v : Nat) (w : World) (hv : v < 18446744073709551616) (hn : 8 ≤ n) (hg : g < w.heap.size) (hr : Room w g o) :
    Calls Ybad.prog 69 #[.slice (some ⟨g, o, none⟩) n c, .int .u64 v] w fun e w' => e = .returned (.tuple #[]) ∧ w' = putBytes w g o v := by
  obtain ⟨x0, c0⟩ := hr.r0
  have z0 := hr.z0
  obtain ⟨x1, c1⟩ := hr.r1
  have z1 := hr.z1
  obtain ⟨x2, c2⟩ := hr.r2
  have z2 := hr.z2
  obtain ⟨x3, c3⟩ := hr.r3
  have z3 := hr.z3
  obtain ⟨x4, c4⟩ := hr.r4
  have z4 := hr.z4
  obtain ⟨x5, c5⟩ := hr.r5
  have z5 := hr.z5
  obtain ⟨x6, c6⟩ := hr.r6
  have z6 := hr.z6
  obtain ⟨x7, c7⟩ := hr.r7
  have z7 := hr.z7
  have q0 : (0 : Int) < (n : Int) := by omega
  have q1 : (1 : Int) < (n : Int) := by omega
  have q2 : (2 : Int) < (n : Int) := by omega
  have q3 : (3 : Int) < (n : Int) := by omega
  have q4 : (4 : Int) < (n : Int) := by omega
  have q5 : (5 : Int) < (n : Int) := by omega
  have q6 : (6 : Int) < (n : Int) := by omega
  have q7 : (7 : Int) < (n : Int) := by omega
  go_enter Ybad.func69, Ybad.ntmps69
  go_wp2
  go_end0
  exact ⟨rfl, rfl⟩

set_option maxRecDepth 100000 in
set_option maxHeartbeats 1600000 in
theorem put19 (g o n c v : Nat) (w : World) (hv : v < 18446744073709551616) (hn : 8 ≤ n) (hg : g < w.heap.size) (hr : Room w g o) :
    Calls Ybad.prog 19 #[.agg #[], .slice (some ⟨g, o, none⟩) n c, .int .u64 v] w fun e w' => e = .returned (.tuple #[]) ∧ w' = (putBytes w g o v).alloc (.cells #[] 71) := by
  obtain ⟨x0, c0⟩ := hr.r0
  have z0 := hr.z0
  obtain ⟨x1, c1⟩ := hr.r1
  have z1 := hr.z1
  obtain ⟨x2, c2⟩ := hr.r2
  have z2 := hr.z2
  obtain ⟨x3, c3⟩ := hr.r3
  have z3 := hr.z3
  obtain ⟨x4, c4⟩ := hr.r4
  have z4 := hr.z4
  obtain ⟨x5, c5⟩ := hr.r5
  have z5 := hr.z5
  obtain ⟨x6, c6⟩ := hr.r6
  have z6 := hr.z6
  obtain ⟨x7, c7⟩ := hr.r7
  have z7 := hr.z7
  have q0 : (0 : Int) < (n : Int) := by omega
  have q1 : (1 : Int) < (n : Int) := by omega
  have q2 : (2 : Int) < (n : Int) := by omega
  have q3 : (3 : Int) < (n : Int) := by omega
  have q4 : (4 : Int) < (n : Int) := by omega
  have q5 : (5 : Int) < (n : Int) := by omega
  have q6 : (6 : Int) < (n : Int) := by omega
  have q7 : (7 : Int) < (n : Int) := by omega
  go_enter Ybad.func19, Ybad.ntmps19
  go_wp2
  go_end0
  exact ⟨rfl, rfl⟩

theorem join64 (v : Nat) (hv : v < 18446744073709551616) : bits .or .u64 (bits .or .u64 (bits .or .u64 (bits .or .u64 (bits .or .u64 (bits .or .u64 (bits .or .u64 ((v : Int) % 256) ((v : Int) / 256 % 256 * 256)) ((v : Int) / 65536 % 256 * 65536)) ((v : Int) / 16777216 % 256 * 16777216)) ((v : Int) / 4294967296 % 256 * 4294967296)) ((v : Int) / 1099511627776 % 256 * 1099511627776)) ((v : Int) / 281474976710656 % 256 * 281474976710656)) ((v : Int) / 72057594037927936 * 72057594037927936) = (v : Int) := by
  have e1 : (v : Int) / 65536 = (v : Int) / 256 / 256 := by omega
  have e2 : (v : Int) / 16777216 = (v : Int) / 65536 / 256 := by omega
  have e3 : (v : Int) / 4294967296 = (v : Int) / 16777216 / 256 := by omega
  have e4 : (v : Int) / 1099511627776 = (v : Int) / 4294967296 / 256 := by omega
  have e5 : (v : Int) / 281474976710656 = (v : Int) / 1099511627776 / 256 := by omega
  have e6 : (v : Int) / 72057594037927936 = (v : Int) / 281474976710656 / 256 := by omega
  have e7 : (v : Int) / 72057594037927936 < 256 := by omega
  have v0 : 0 ≤ (v : Int) := by omega
  generalize (v : Int) / 72057594037927936 = d7 at *
  generalize (v : Int) / 281474976710656 = d6 at *
  generalize (v : Int) / 1099511627776 = d5 at *
  generalize (v : Int) / 4294967296 = d4 at *
  generalize (v : Int) / 16777216 = d3 at *
  generalize (v : Int) / 65536 = d2 at *
  have p1 : 0 ≤ (v : Int) / 256 := by omega
  have p2 : 0 ≤ d2 := by omega
  have p3 : 0 ≤ d3 := by omega
  have p4 : 0 ≤ d4 := by omega
  have p5 : 0 ≤ d5 := by omega
  have p6 : 0 ≤ d6 := by omega
  have p7 : 0 ≤ d7 := by omega
  simp (disch := omega) only [u64_or8, u64_or16, u64_or24, u64_or32, u64_or40, u64_or48, u64_or56]
  omega

set_option maxRecDepth 100000 in
set_option maxHeartbeats 3200000 in
theorem be34 (g o n c v : Nat) (w : World) (hv : v < 18446744073709551616) (hn : 8 ≤ n) (hg : g < w.heap.size) (hb : Bytes w g o v) :
    Calls Ybad.prog 34 #[.slice (some ⟨g, o, none⟩) n c] w fun e w' => e = .returned (.int .u64 v) ∧ ∃ k, w' = w.drewN k := by
  obtain ⟨c0, c1, c2, c3, c4, c5, c6, c7⟩ := hb
  have q0 : (0 : Int) < (n : Int) := by omega
  have q1 : (1 : Int) < (n : Int) := by omega
  have q2 : (2 : Int) < (n : Int) := by omega
  have q3 : (3 : Int) < (n : Int) := by omega
  have q4 : (4 : Int) < (n : Int) := by omega
  have q5 : (5 : Int) < (n : Int) := by omega
  have q6 : (6 : Int) < (n : Int) := by omega
  have q7 : (7 : Int) < (n : Int) := by omega
  go_enter Ybad.func34, Ybad.ntmps34
  go_wp2
  go_quiet (fail)
  go_wp2
  go_ret
  refine ⟨?_, nq, rfl⟩
  show Ending.returned (Value.int .u64 (bits .or .u64 _ _)) = _
  rw [join64 v hv]

set_option maxRecDepth 100000 in
set_option maxHeartbeats 3200000 in
theorem be51 (g o n c v : Nat) (w : World) (hv : v < 18446744073709551616) (hn : 8 ≤ n) (hg : g < w.heap.size) (hb : Bytes w g o v) :
    Calls Ybad.prog 51 #[.agg #[], .slice (some ⟨g, o, none⟩) n c] w fun e w' => e = .returned (.int .u64 v) ∧ ∃ k, w' = (w.alloc (.cells #[] 71)).drewN k := by
  obtain ⟨c0, c1, c2, c3, c4, c5, c6, c7⟩ := hb
  have q0 : (0 : Int) < (n : Int) := by omega
  have q1 : (1 : Int) < (n : Int) := by omega
  have q2 : (2 : Int) < (n : Int) := by omega
  have q3 : (3 : Int) < (n : Int) := by omega
  have q4 : (4 : Int) < (n : Int) := by omega
  have q5 : (5 : Int) < (n : Int) := by omega
  have q6 : (6 : Int) < (n : Int) := by omega
  have q7 : (7 : Int) < (n : Int) := by omega
  go_enter Ybad.func51, Ybad.ntmps51
  go_wp2
  go_quiet (fail)
  go_wp2
  go_ret
  refine ⟨?_, nq, rfl⟩
  show Ending.returned (Value.int .u64 (bits .or .u64 _ _)) = _
  rw [join64 v hv]
end Go.Proofs.YbulkbnryDoor
