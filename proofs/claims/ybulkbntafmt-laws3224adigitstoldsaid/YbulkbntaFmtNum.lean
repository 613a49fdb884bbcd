import Derived.Test.YbulkbntaFmtParse
import Derived.Lib.AtoiErrMem
namespace Go.Proofs.YbulkbntaFmt
open Go.RowKit Go.Lib Go.Extern.Stop Go.Stop Go.Extern

/-- Digits that an int64 holds: the call of ParseInt. -/
theorem pint_ok (d : ByteArray) (v : Int) (w : World) (hmax : d.size ≤ 281474976710656) (h : Hid (parseIntB 64 d.data.toList = .ok v)) :
    Calls Ybaf.prog 16 #[.string d, .int .i64 10, .int .i64 64] w fun e w' => e = .returned (.tuple #[.int .i64 v, .nilIface]) ∧ Below w.heap.size w w' := by
  refine (Ybaf.strconv_ParseInt_10_at64_ok d (by omega) v h.out w).mono ?_
  rintro e w' ⟨rfl, hw⟩
  refine ⟨rfl, ?_⟩
  rcases hw with rfl | ⟨t, rfl⟩
  · exact Below.refl _ _
  · exact bytesWorld_below _ _ _

/-- Digits that no int64 holds. -/
theorem pint_range (d : ByteArray) (w : World) (hmax : d.size ≤ 281474976710656) (h : Hid (parseIntB 64 d.data.toList = .range)) (hv : ∃ te pe, w.cell? ⟨1, 0, none⟩ = some (.iface te pe)) :
    Calls Ybaf.prog 16 #[.string d, .int .i64 10, .int .i64 64] w fun e w' => (∃ x N, e = .returned (.tuple #[.int .i64 x, .iface 56 (.pointer (some ⟨N, 0, none⟩))])) ∧ Below w.heap.size w w' := by
  obtain ⟨te, pe, hv⟩ := hv
  refine (Ybaf.strconv_ParseInt_10_at64_range d hmax h.out _ w hv (Or.inr ⟨te, pe, rfl⟩)).mono ?_
  rintro e w' ⟨N, rfl, _, _, hb⟩
  exact ⟨⟨_, N, rfl⟩, hb⟩

set_option maxRecDepth 100000 in
set_option maxHeartbeats 800000 in
/-- ParseShares: digits alone. -/
theorem parse_ok (s d : ByteArray) (v : Int) (w : World) (hmax : d.size ≤ 281474976710656) (h0 : s.toList.isEmpty = false) (hd : Hid (d.data.toList = trimPrefix s.data.toList [45])) (h1 : d.toList.isEmpty = false) (hi : idxFunc noDig true d = -1)
    (hp : Hid (parseIntB 64 d.data.toList = .ok v)) (hlt : ¬ d.size < s.size) :
    Calls Ybaf.prog 10 #[.string s] w fun e w' => e = .returned (.tuple #[.int .i64 v, .nilIface]) ∧ Below w.heap.size w w' := by
  go_enter Ybaf.func10, Ybaf.ntmps10
  go_wp2_with fail
  refine (trim_any s d _ hd.out).mono ?_
  rintro e w' ⟨rfl, rfl⟩
  go_wp2_with fail
  refine (index_any d _).mono ?_
  rintro e w1 ⟨rfl, hb1⟩
  go_wp2_with fail
  refine (pint_ok d _ _ hmax hp).mono ?_
  rintro e w2 ⟨rfl, hb2⟩
  go_wp2
  go_ret2
  exact ⟨rfl, hb1.trans (hb2.mono hb1.size)⟩

set_option maxRecDepth 100000 in
set_option maxHeartbeats 800000 in
/-- ParseShares: a minus and zeros. -/
theorem parse_zero (s d : ByteArray) (v : Int) (w : World) (hmax : d.size ≤ 281474976710656) (h0 : s.toList.isEmpty = false) (hd : Hid (d.data.toList = trimPrefix s.data.toList [45])) (h1 : d.toList.isEmpty = false) (hi : idxFunc noDig true d = -1)
    (hp : Hid (parseIntB 64 d.data.toList = .ok v)) (hlt : d.size < s.size) (hz : v = 0) :
    Calls Ybaf.prog 10 #[.string s] w fun e w' => e = .returned (.tuple #[.int .i64 v, .nilIface]) ∧ Below w.heap.size w w' := by
  subst hz
  go_enter Ybaf.func10, Ybaf.ntmps10
  go_wp2_with fail
  refine (trim_any s d _ hd.out).mono ?_
  rintro e w' ⟨rfl, rfl⟩
  go_wp2_with fail
  refine (index_any d _).mono ?_
  rintro e w1 ⟨rfl, hb1⟩
  go_wp2_with fail
  refine (pint_ok d _ _ hmax hp).mono ?_
  rintro e w2 ⟨rfl, hb2⟩
  go_wp2
  go_ret2
  exact ⟨rfl, hb1.trans (hb2.mono hb1.size)⟩

set_option maxRecDepth 100000 in
set_option maxHeartbeats 800000 in
/-- ParseShares: a minus and a number. -/
theorem parse_neg (F : Interp) (s d : ByteArray) (v : Int) (w : World) (hF : F.answers w.tape) (hmax : d.size ≤ 281474976710656) (h0 : s.toList.isEmpty = false) (hd : Hid (d.data.toList = trimPrefix s.data.toList [45])) (h1 : d.toList.isEmpty = false) (hi : idxFunc noDig true d = -1)
    (hp : Hid (parseIntB 64 d.data.toList = .ok v)) (hlt : d.size < s.size) (hz : ¬ v = 0) :
    Calls Ybaf.prog 10 #[.string s] w fun e w' => ∃ N, e = .returned (.tuple #[.int .i64 0, .iface 45 (.pointer (some ⟨N, 0, none⟩))]) ∧ Below w.heap.size w w' := by
  go_enter Ybaf.func10, Ybaf.ntmps10
  go_wp2_with fail
  refine (trim_any s d _ hd.out).mono ?_
  rintro e w' ⟨rfl, rfl⟩
  go_wp2_with fail
  refine (index_any d _).mono ?_
  rintro e w1 ⟨rfl, hb1⟩
  have hF1 := answers_below hF hb1
  go_wp2_with fail
  refine (pint_ok d _ _ hmax hp).mono ?_
  rintro e w2 ⟨rfl, hb2⟩
  have hF2 := answers_below hF1 hb2

  go_wp2_with fail
  refine (errorf_neg F s _ _ ?_ ?_).mono ?_
  · exact hF2
  · go_simp

  rintro e w' ⟨M, rfl, hb⟩
  go_wp2
  go_ret2
  have hbb := hb1.trans (hb2.mono hb1.size)
  exact ⟨M, rfl, hbb.trans (((Below.refl _ _).alloc hbb.size _).trans (hb.mono (by have := hbb.size; simp; omega)))⟩

set_option maxRecDepth 100000 in
set_option maxHeartbeats 800000 in
/-- ParseShares: a minus and a great number. -/
theorem parse_negover (F : Interp) (s d : ByteArray) (w : World) (hF : F.answers w.tape) (hmax : d.size ≤ 281474976710656) (h0 : s.toList.isEmpty = false) (hd : Hid (d.data.toList = trimPrefix s.data.toList [45])) (h1 : d.toList.isEmpty = false) (hi : idxFunc noDig true d = -1)
    (hp : Hid (parseIntB 64 d.data.toList = .range)) (hv : ∃ te pe, w.cell? ⟨1, 0, none⟩ = some (.iface te pe)) (hs : 1 < w.heap.size) (hlt : d.size < s.size) :
    Calls Ybaf.prog 10 #[.string s] w fun e w' => ∃ N, e = .returned (.tuple #[.int .i64 0, .iface 45 (.pointer (some ⟨N, 0, none⟩))]) ∧ Below w.heap.size w w' := by
  go_enter Ybaf.func10, Ybaf.ntmps10
  go_wp2_with fail
  refine (trim_any s d _ hd.out).mono ?_
  rintro e w' ⟨rfl, rfl⟩
  go_wp2_with fail
  refine (index_any d _).mono ?_
  rintro e w1 ⟨rfl, hb1⟩
  have hF1 := answers_below hF hb1
  have hv1 : Hid (∃ te pe, w1.cell? ⟨1, 0, none⟩ = some (.iface te pe)) := by
    obtain ⟨te, pe, hv⟩ := hv
    exact ⟨te, pe, (hb1.cell (p := ⟨1, 0, none⟩) hs).trans hv⟩
  clear hv
  go_wp2_with fail
  refine (pint_range d _ hmax hp hv1.out).mono ?_
  rintro e w2 ⟨⟨x, N, rfl⟩, hb2⟩
  have hF2 := answers_below hF1 hb2
  have hbb := hb1.trans (hb2.mono hb1.size)
  by_cases hx : x = 0
  · subst hx
    go_wp2_with fail
    refine (errorf_neg F s _ _ ?_ ?_).mono ?_
    · exact hF2
    · go_simp
    rintro e w' ⟨M, rfl, hb⟩
    go_wp2
    go_ret2
    exact ⟨M, rfl, hbb.trans (((Below.refl _ _).alloc hbb.size _).trans (hb.mono (by have := hbb.size; simp; omega)))⟩
  · go_wp2_with fail
    refine (errorf_neg F s _ _ ?_ ?_).mono ?_
    · exact hF2
    · go_simp
    rintro e w' ⟨M, rfl, hb⟩
    go_wp2
    go_ret2
    exact ⟨M, rfl, hbb.trans (((Below.refl _ _).alloc hbb.size _).trans (hb.mono (by have := hbb.size; simp; omega)))⟩

set_option maxRecDepth 100000 in
set_option maxHeartbeats 800000 in
/-- ParseShares: a great number. -/
theorem parse_over (F : Interp) (s d : ByteArray) (w : World) (hF : F.answers w.tape) (hmax : d.size ≤ 281474976710656) (h0 : s.toList.isEmpty = false) (hd : Hid (d.data.toList = trimPrefix s.data.toList [45])) (h1 : d.toList.isEmpty = false) (hi : idxFunc noDig true d = -1)
    (hp : Hid (parseIntB 64 d.data.toList = .range)) (hv : ∃ te pe, w.cell? ⟨1, 0, none⟩ = some (.iface te pe)) (hs : 1 < w.heap.size) (hlt : ¬ d.size < s.size) :
    Calls Ybaf.prog 10 #[.string s] w fun e w' => ∃ N, e = .returned (.tuple #[.int .i64 0, .iface 45 (.pointer (some ⟨N, 0, none⟩))]) ∧ Below w.heap.size w w' := by
  go_enter Ybaf.func10, Ybaf.ntmps10
  go_wp2_with fail
  refine (trim_any s d _ hd.out).mono ?_
  rintro e w' ⟨rfl, rfl⟩
  go_wp2_with fail
  refine (index_any d _).mono ?_
  rintro e w1 ⟨rfl, hb1⟩
  have hF1 := answers_below hF hb1
  have hv1 : Hid (∃ te pe, w1.cell? ⟨1, 0, none⟩ = some (.iface te pe)) := by
    obtain ⟨te, pe, hv⟩ := hv
    exact ⟨te, pe, (hb1.cell (p := ⟨1, 0, none⟩) hs).trans hv⟩
  clear hv
  go_wp2_with fail
  refine (pint_range d _ hmax hp hv1.out).mono ?_
  rintro e w2 ⟨⟨x, N, rfl⟩, hb2⟩
  have hF2 := answers_below hF1 hb2

  go_wp2_with fail
  refine (errorf_abv F s _ _ ?_ ?_ ?_).mono ?_
  · exact hF2
  · go_simp
  · go_simp
  rintro e w' ⟨M, rfl, hb⟩
  go_wp2
  go_ret2
  have hbb := hb1.trans (hb2.mono hb1.size)
  exact ⟨M, rfl, hbb.trans (((Below.refl _ _).alloc hbb.size _).trans (hb.mono (by have := hbb.size; simp; omega)))⟩
end Go.Proofs.YbulkbntaFmt
