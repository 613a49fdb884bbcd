import Derived.Test.YbulkbntaFmtIdx
import Derived.Test.YbulkbntaFmtErr
namespace Go.Proofs.YbulkbntaFmt
open Go.RowKit Go.Lib Go.Extern.Stop Go.Stop Go.Extern

/-- The answers of fmt's stop reach into every later world of the call. -/
theorem answers_below {F : Interp} {w w' : World} {B : Nat} (hF : F.answers w.tape) (hb : Below B w w') : F.answers w'.tape := by rw [hb.tape]; exact hF

set_option maxRecDepth 100000 in
set_option maxHeartbeats 800000 in
/-- ParseShares at the empty text. -/
theorem parse_empty (w : World) : Calls Ybaf.prog 10 #[.string ⟨#[]⟩] w fun e w' => ∃ N, e = .returned (.tuple #[.int .i64 0, .iface 45 (.pointer (some ⟨N, 0, none⟩))]) ∧ Below w.heap.size w w' := by
  go_enter Ybaf.func10, Ybaf.ntmps10
  go_wp2_with fail
  refine (errorsNew_any _ _).mono ?_
  rintro e w' ⟨N, rfl, hb⟩
  go_wp2
  go_ret2
  exact ⟨N, rfl, hb⟩

/-- TrimPrefix by "-": the text behind a leading minus. -/
theorem trim_any (s d : ByteArray) (w : World) (hd : d.data.toList = trimPrefix s.data.toList [45]) :
    Calls Ybaf.prog 13 #[.string s, .string ⟨#[45]⟩] w fun e w' => e = .returned (.string d) ∧ w' = w := by
  refine (Ybaf.strings_TrimPrefix s ⟨#[45]⟩ w).mono ?_
  rintro e w' ⟨rfl, rfl⟩
  refine ⟨?_, rfl⟩
  have : (⟨(trimPrefix s.data.toList [45]).toArray⟩ : ByteArray) = d := by rw [← hd]
  rw [← this]

set_option maxRecDepth 100000 in
set_option maxHeartbeats 800000 in
/-- ParseShares: nothing behind the minus. -/
theorem parse_bare (F : Interp) (s : ByteArray) (w : World) (hF : F.answers w.tape) (h0 : s.toList.isEmpty = false) (hd : Hid ((⟨#[]⟩ : ByteArray).data.toList = trimPrefix s.data.toList [45])) :
    Calls Ybaf.prog 10 #[.string s] w fun e w' => ∃ N, e = .returned (.tuple #[.int .i64 0, .iface 45 (.pointer (some ⟨N, 0, none⟩))]) ∧ Below w.heap.size w w' := by
  go_enter Ybaf.func10, Ybaf.ntmps10
  go_wp2_with fail
  refine (trim_any s ⟨#[]⟩ _ hd.out).mono ?_
  rintro e w' ⟨rfl, rfl⟩
  go_wp2_with fail
  refine (errorf_whole F s _ _ ?_ ?_).mono ?_
  · exact hF
  · go_simp
  rintro e w' ⟨N, rfl, hb⟩
  go_wp2
  go_ret2
  exact ⟨N, rfl, ((Below.refl _ _).alloc (Nat.le_refl _) _).trans (hb.mono (by simp))⟩

set_option maxRecDepth 100000 in
set_option maxHeartbeats 800000 in
/-- ParseShares: another byte among the digits. -/
theorem parse_bad (F : Interp) (s d : ByteArray) (w : World) (hF : F.answers w.tape) (h0 : s.toList.isEmpty = false) (hd : Hid (d.data.toList = trimPrefix s.data.toList [45])) (h1 : d.toList.isEmpty = false) (hb : ¬ d.data.toList.all isDig = true) :
    Calls Ybaf.prog 10 #[.string s] w fun e w' => ∃ N, e = .returned (.tuple #[.int .i64 0, .iface 45 (.pointer (some ⟨N, 0, none⟩))]) ∧ Below w.heap.size w w' := by
  have hi := idx_some d hb
  clear hb
  go_enter Ybaf.func10, Ybaf.ntmps10
  go_wp2_with fail
  refine (trim_any s d _ hd.out).mono ?_
  rintro e w' ⟨rfl, rfl⟩
  go_wp2_with fail
  refine (index_any d _).mono ?_
  rintro e w1 ⟨rfl, hb1⟩
  have hF1 := answers_below hF hb1
  go_wp2_with fail
  refine (errorf_whole F s _ _ ?_ ?_).mono ?_
  · exact hF1
  · go_simp
  rintro e w' ⟨N, rfl, hb⟩
  go_wp2
  go_ret2
  exact ⟨N, rfl, hb1.trans (((Below.refl _ _).alloc hb1.size _).trans (hb.mono (by have := hb1.size; simp; omega)))⟩
end Go.Proofs.YbulkbntaFmt
