import Derived.Test.YbulkbntaFmtSet
namespace Go.Proofs.YbulkbntaFmt
open Go.RowKit Go.Lib Go.Extern.Stop Go.Stop Go.Extern

/-- The flag's two cells. -/
structure FlagAt (w : World) (B : Nat) (n : Int) (s : Bool) : Prop where
  lt : B < w.heap.size
  c0 : w.cell? ⟨B, 0, none⟩ = some (.int .i64 n)
  c1 : w.cell? ⟨B, 1, none⟩ = some (.bool s)
  z0 : w.frozen? ⟨B, 0, none⟩ = false
  z1 : w.frozen? ⟨B, 1, none⟩ = false
theorem FlagAt.far {w w' : World} {B : Nat} {n : Int} {s : Bool} (h : FlagAt w B n s) (hb : Below w.heap.size w w') : FlagAt w' B n s :=
  ⟨Nat.lt_of_lt_of_le h.lt hb.size, (hb.cell (p := ⟨B, 0, none⟩) h.lt).trans h.c0, (hb.cell (p := ⟨B, 1, none⟩) h.lt).trans h.c1, (hb.frozen (p := ⟨B, 0, none⟩) h.lt).trans h.z0, (hb.frozen (p := ⟨B, 1, none⟩) h.lt).trans h.z1⟩

set_option maxRecDepth 100000 in
set_option maxHeartbeats 800000 in
theorem set8_some (F : Interp) (s : ByteArray) (B : Nat) (n0 : Int) (s0 : Bool) (w : World) (hF : F.answers w.tape) (hmax : s.size ≤ 281474976710656) (hv : Hid (∃ te pe, w.cell? ⟨1, 0, none⟩ = some (.iface te pe))) (hs : 1 < w.heap.size) (v : Nat) (hm : Hid (model s.data.toList = some v))
    (hf : FlagAt w B n0 s0) :
    Calls Ybaf.prog 8 #[.pointer (some ⟨B, 0, none⟩), .string s] w fun e w' => e = .returned .nilIface ∧ FlagAt w' B (v : Int) true ∧ Below B w w' := by
  go_enter Ybaf.func8, Ybaf.ntmps8
  go_wp2_with fail
  refine (parse_some F s _ hF hmax hv.out hs v hm.out).mono ?_
  rintro e w1 ⟨rfl, hb1⟩
  obtain ⟨l, c0, c1, z0, z1⟩ := hf.far hb1
  go_wp2
  go_ret
  refine ⟨rfl, ⟨?_, ?_, ?_, ?_, ?_⟩, ?_⟩
  · simpa using l
  · go_simp
  · go_simp
  · go_simp
  · go_simp
  · exact ((hb1.mono (Nat.le_of_lt hf.lt)).setCell (Nat.le_refl _) _).setCell (Nat.le_refl _) _

set_option maxRecDepth 100000 in
set_option maxHeartbeats 800000 in
theorem set8_none (F : Interp) (s : ByteArray) (p : Value) (w : World) (hF : F.answers w.tape) (hmax : s.size ≤ 281474976710656) (hv : Hid (∃ te pe, w.cell? ⟨1, 0, none⟩ = some (.iface te pe))) (hs : 1 < w.heap.size) (hm : Hid (model s.data.toList = none)) :
    Calls Ybaf.prog 8 #[p, .string s] w fun e w' => ∃ N, e = .returned (.iface 45 (.pointer (some ⟨N, 0, none⟩))) ∧ Below w.heap.size w w' := by
  go_enter Ybaf.func8, Ybaf.ntmps8
  go_wp2_with fail
  refine (parse_none F s _ hF hmax hv.out hs hm.out).mono ?_
  rintro e w1 ⟨N, rfl, hb1⟩
  go_wp2
  go_ret
  exact ⟨N, rfl, hb1⟩

set_option maxRecDepth 100000 in
set_option maxHeartbeats 800000 in
theorem set6_some (F : Interp) (s : ByteArray) (B : Nat) (n0 : Int) (s0 : Bool) (w : World) (hF : F.answers w.tape) (hmax : s.size ≤ 281474976710656) (hv : Hid (∃ te pe, w.cell? ⟨1, 0, none⟩ = some (.iface te pe))) (hs : 1 < w.heap.size) (v : Nat) (hm : Hid (model s.data.toList = some v)) (h0 : ¬ (v : Int) = 0)
    (hf : FlagAt w B n0 s0) :
    Calls Ybaf.prog 6 #[.pointer (some ⟨B, 0, none⟩), .string s] w fun e w' => e = .returned .nilIface ∧ FlagAt w' B (v : Int) true ∧ Below B w w' := by
  go_enter Ybaf.func6, Ybaf.ntmps6
  go_wp2_with fail
  refine (set8_some F s B n0 s0 _ hF hmax hv hs v hm hf).mono ?_
  rintro e w1 ⟨rfl, hf1, hb1⟩
  have c0 := hf1.c0
  go_wp2
  go_ret
  exact ⟨rfl, hf1, hb1⟩

set_option maxRecDepth 100000 in
set_option maxHeartbeats 800000 in
theorem set6_zero (F : Interp) (s : ByteArray) (B : Nat) (n0 : Int) (s0 : Bool) (w : World) (hF : F.answers w.tape) (hmax : s.size ≤ 281474976710656) (hv : Hid (∃ te pe, w.cell? ⟨1, 0, none⟩ = some (.iface te pe))) (hs : 1 < w.heap.size) (hm : Hid (model s.data.toList = some 0))
    (hf : FlagAt w B n0 s0) :
    Calls Ybaf.prog 6 #[.pointer (some ⟨B, 0, none⟩), .string s] w fun e w' => ∃ N, e = .returned (.iface 45 (.pointer (some ⟨N, 0, none⟩))) ∧ FlagAt w' B 0 true ∧ Below B w w' := by
  go_enter Ybaf.func6, Ybaf.ntmps6
  go_wp2_with fail
  refine (set8_some F s B n0 s0 _ hF hmax hv hs 0 hm hf).mono ?_
  rintro e w1 ⟨rfl, hf1, hb1⟩
  have c0 : w1.cell? ⟨B, 0, none⟩ = some (.int .i64 0) := hf1.c0
  have hF1 := answers_below hF hb1
  go_wp2_with fail
  refine (errorf_pos F s _ _ ?_ ?_).mono ?_
  · exact hF1
  · go_simp
  rintro e w2 ⟨N, rfl, hb2⟩
  go_wp2
  go_ret
  have hb3 : Below w1.heap.size w1 w2 := ((Below.refl _ _).alloc (Nat.le_refl _) _).trans (hb2.mono (by simp))
  exact ⟨N, rfl, hf1.far hb3, hb1.trans (hb3.mono (Nat.le_of_lt hf1.lt))⟩

set_option maxRecDepth 100000 in
set_option maxHeartbeats 800000 in
theorem set6_none (F : Interp) (s : ByteArray) (B : Nat) (w : World) (hF : F.answers w.tape) (hmax : s.size ≤ 281474976710656) (hv : Hid (∃ te pe, w.cell? ⟨1, 0, none⟩ = some (.iface te pe))) (hs : 1 < w.heap.size) (hm : Hid (model s.data.toList = none)) :
    Calls Ybaf.prog 6 #[.pointer (some ⟨B, 0, none⟩), .string s] w fun e w' => ∃ N, e = .returned (.iface 45 (.pointer (some ⟨N, 0, none⟩))) ∧ Below w.heap.size w w' := by
  go_enter Ybaf.func6, Ybaf.ntmps6
  go_wp2_with fail
  refine (set8_none F s _ _ hF hmax hv hs hm).mono ?_
  rintro e w1 ⟨N, rfl, hb1⟩
  go_wp2
  go_ret
  exact ⟨N, rfl, hb1⟩
end Go.Proofs.YbulkbntaFmt
