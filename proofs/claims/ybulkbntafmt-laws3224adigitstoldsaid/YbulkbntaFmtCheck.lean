import Derived.Test.YbulkbntaFmtFlag
import Derived.Test.YbulkbntaFmtModel
namespace Go.Proofs.YbulkbntaFmt
open Go.RowKit Go.Lib Go.Extern.Stop Go.Stop Go.Extern

theorem flag_new (w : World) (n0 : Int) (s0 : Bool) : FlagAt (w.alloc (.cells #[.int .i64 n0, .bool s0] 29)) w.heap.size n0 s0 := by
  refine ⟨?_, ?_, ?_, ?_, ?_⟩ <;> go_simp
theorem below_new (w : World) (n0 : Int) (s0 : Bool) : Below w.heap.size w (w.alloc (.cells #[.int .i64 n0, .bool s0] 29)) := (Below.refl _ _).alloc (Nat.le_refl _) _
theorem err_new (w : World) (n0 : Int) (s0 : Bool) (hs : 1 < w.heap.size) (hv : Hid (∃ te pe, w.cell? ⟨1, 0, none⟩ = some (.iface te pe))) : Hid (∃ te pe, (w.alloc (.cells #[.int .i64 n0, .bool s0] 29)).cell? ⟨1, 0, none⟩ = some (.iface te pe)) := by
  obtain ⟨te, pe, h⟩ := hv.out
  exact ⟨te, pe, ((below_new w n0 s0).cell (p := ⟨1, 0, none⟩) hs).trans h⟩

set_option maxRecDepth 100000 in
set_option maxHeartbeats 1600000 in
theorem check_some (F : Interp) (s : ByteArray) (n0 : Int) (s0 : Bool) (w : World) (hF : F.answers w.tape) (hmax : s.size ≤ 281474976710656) (hv : Hid (∃ te pe, w.cell? ⟨1, 0, none⟩ = some (.iface te pe))) (hs : 1 < w.heap.size) (v : Nat) (hm : Hid (model s.data.toList = some v)) (h0 : ¬ (v : Int) = 0) :
    Calls Ybaf.prog 5 #[.string s, .int .i64 n0, .bool s0] w fun e w' => e = .returned (.bool true) ∧ Below w.heap.size w w' := by
  go_enter Ybaf.func5, Ybaf.ntmps5
  go_wp2_with fail
  refine (set6_some F s w.heap.size n0 s0 _ (answers_below hF (below_new w n0 s0)) hmax (err_new w n0 s0 hs hv) (Nat.lt_of_lt_of_le hs (below_new w n0 s0).size) v hm h0 (flag_new w n0 s0)).mono ?_
  rintro e w1 ⟨rfl, hf, hb⟩
  obtain ⟨l, c0, c1, z0, z1⟩ := hf
  go_wp2_with fail
  refine (model_some s _ hmax v hm.out).mono ?_
  rintro e w' ⟨rfl, rfl⟩
  go_wp2
  go_ret
  exact ⟨rfl, (below_new w n0 s0).trans hb⟩

set_option maxRecDepth 100000 in
set_option maxHeartbeats 1600000 in
theorem check_zero (F : Interp) (s : ByteArray) (n0 : Int) (s0 : Bool) (w : World) (hF : F.answers w.tape) (hmax : s.size ≤ 281474976710656) (hv : Hid (∃ te pe, w.cell? ⟨1, 0, none⟩ = some (.iface te pe))) (hs : 1 < w.heap.size) (hm : Hid (model s.data.toList = some 0)) :
    Calls Ybaf.prog 5 #[.string s, .int .i64 n0, .bool s0] w fun e w' => e = .returned (.bool true) ∧ Below w.heap.size w w' := by
  go_enter Ybaf.func5, Ybaf.ntmps5
  go_wp2_with fail
  refine (set6_zero F s w.heap.size n0 s0 _ (answers_below hF (below_new w n0 s0)) hmax (err_new w n0 s0 hs hv) (Nat.lt_of_lt_of_le hs (below_new w n0 s0).size) hm (flag_new w n0 s0)).mono ?_
  rintro e w1 ⟨N, rfl, hf, hb⟩
  obtain ⟨l, c0, c1, z0, z1⟩ := hf
  go_wp2_with fail
  refine (model_some s _ hmax 0 hm.out).mono ?_
  rintro e w' ⟨rfl, rfl⟩
  go_wp2
  go_ret
  exact ⟨rfl, (below_new w n0 s0).trans hb⟩

set_option maxRecDepth 100000 in
set_option maxHeartbeats 1600000 in
theorem check_none (F : Interp) (s : ByteArray) (n0 : Int) (s0 : Bool) (w : World) (hF : F.answers w.tape) (hmax : s.size ≤ 281474976710656) (hv : Hid (∃ te pe, w.cell? ⟨1, 0, none⟩ = some (.iface te pe))) (hs : 1 < w.heap.size) (hm : Hid (model s.data.toList = none)) :
    Calls Ybaf.prog 5 #[.string s, .int .i64 n0, .bool s0] w fun e w' => e = .returned (.bool true) ∧ Below w.heap.size w w' := by
  go_enter Ybaf.func5, Ybaf.ntmps5
  go_wp2_with fail
  refine (set6_none F s w.heap.size _ (answers_below hF (below_new w n0 s0)) hmax (err_new w n0 s0 hs hv) (Nat.lt_of_lt_of_le hs (below_new w n0 s0).size) hm).mono ?_
  rintro e w1 ⟨N, rfl, hb⟩
  obtain ⟨l, c0, c1, z0, z1⟩ := (flag_new w n0 s0).far hb
  go_wp2_with fail
  refine (model_none s _ hmax hm.out).mono ?_
  rintro e w' ⟨rfl, rfl⟩
  go_wp2
  go_ret
  exact ⟨rfl, (below_new w n0 s0).trans (hb.mono (Nat.le_of_lt (flag_new w n0 s0).lt))⟩

theorem check_any (F : Interp) (s : ByteArray) (n0 : Int) (s0 : Bool) (w : World) (hF : F.answers w.tape) (hmax : s.size ≤ 281474976710656) (hv : Hid (∃ te pe, w.cell? ⟨1, 0, none⟩ = some (.iface te pe))) (hs : 1 < w.heap.size) :
    Calls Ybaf.prog 5 #[.string s, .int .i64 n0, .bool s0] w fun e w' => e = .returned (.bool true) ∧ Below w.heap.size w w' := by
  cases hm : model s.data.toList with
  | none => exact check_none F s n0 s0 w hF hmax hv hs hm
  | some v =>
    by_cases h0 : v = 0
    · subst h0; exact check_zero F s n0 s0 w hF hmax hv hs hm
    · exact check_some F s n0 s0 w hF hmax hv hs v hm (by omega)

set_option maxRecDepth 100000 in
theorem any_law (F : Interp) (s : ByteArray) (n0 : Int) (s0 : Bool) (w : World) (hF : F.answers w.tape) (hmax : s.size ≤ 9223372036854775807) (hv : Hid (∃ te pe, w.cell? ⟨1, 0, none⟩ = some (.iface te pe))) (hs : 1 < w.heap.size) :
    Calls Ybaf.prog 3 #[.string s, .int .i64 n0, .bool s0] w fun e w' => e = .returned (.bool true) ∧ Below w.heap.size w w' := by
  go_enter Ybaf.func3, Ybaf.ntmps3
  by_cases hl : 4096 < s.size
  · go_wp2
    go_ret
    exact ⟨rfl, Below.refl _ _⟩
  · go_wp2_with fail
    refine (check_any F s n0 s0 _ hF (by omega) hv hs).mono ?_
    rintro e w1 ⟨rfl, hb⟩
    go_wp2
    go_ret
    exact ⟨rfl, hb⟩
end Go.Proofs.YbulkbntaFmt
