import Derived.Test.YbulkbntaFmtNum
namespace Go.Proofs.YbulkbntaFmt
open Go.RowKit Go.Lib Go.Extern.Stop Go.Stop Go.Extern

theorem trim_strip (l : List UInt8) : trimPrefix l [45] = strip l := by
  cases l with
  | nil => rfl
  | cons c r =>
    by_cases h : c = 45
    · subst h; simp [trimPrefix, hasPrefix, strip]
    · simp [trimPrefix, hasPrefix, strip, h, Ne.symm h]
theorem strip_len (l : List UInt8) : (strip l).length < l.length ↔ isNeg l = true := by
  cases l with
  | nil => simp [strip, isNeg]
  | cons c r => by_cases h : c = 45 <;> simp [strip, isNeg, h]
theorem isEmpty_of {s : ByteArray} (h : s.data.toList ≠ []) : s.toList.isEmpty = false := by
  rw [ByteArray.toList_eq]; cases e : s.data.toList with
  | nil => exact absurd e h
  | cons c r => rfl

/-- What ParseShares answers. -/
def Told (l : List UInt8) (e : Ending) : Prop :=
  match model l with
  | some v => e = .returned (.tuple #[.int .i64 (v : Int), .nilIface])
  | none => ∃ N, e = .returned (.tuple #[.int .i64 0, .iface 45 (.pointer (some ⟨N, 0, none⟩))])

theorem parse_any (F : Interp) (s : ByteArray) (w : World) (hF : F.answers w.tape) (hmax : s.size ≤ 281474976710656) (hv : ∃ te pe, w.cell? ⟨1, 0, none⟩ = some (.iface te pe)) (hs : 1 < w.heap.size) :
    Calls Ybaf.prog 10 #[.string s] w fun e w' => Told s.data.toList e ∧ Below w.heap.size w w' := by
  by_cases he : s.data.toList = []
  · have : s = ⟨#[]⟩ := by
      cases s with | mk a => simp at he; simp [he]
    subst this
    refine (parse_empty w).mono ?_
    rintro e w' ⟨N, rfl, hb⟩
    exact ⟨⟨N, rfl⟩, hb⟩
  have h0 := isEmpty_of he
  obtain ⟨d, hd⟩ : ∃ d : ByteArray, d.data.toList = trimPrefix s.data.toList [45] := ⟨⟨(trimPrefix s.data.toList [45]).toArray⟩, by simp⟩
  have hds : d.data.toList = strip s.data.toList := hd.trans (trim_strip _)
  have hlen : d.size = (strip s.data.toList).length := by rw [← hds]; rfl
  have hslen : s.size = s.data.toList.length := rfl
  have hle : (strip s.data.toList).length ≤ s.data.toList.length := by
    unfold strip; split <;> simp
  have hn := strip_len s.data.toList
  by_cases hde : strip s.data.toList = []
  · have hd0 : d = ⟨#[]⟩ := by
      rw [← hds] at hde
      cases d with | mk a => simp at hde; simp [hde]
    subst hd0
    refine (parse_bare F s w hF h0 hd).mono ?_
    rintro e w' ⟨N, rfl, hb⟩
    refine ⟨?_, hb⟩
    unfold Told model
    rw [if_pos hde]
    exact ⟨N, rfl⟩
  have h1 : d.toList.isEmpty = false := isEmpty_of (by rw [hds]; exact hde)
  by_cases ha : (strip s.data.toList).all isDig = true
  · have hi := idx_all d (by rw [hds]; exact ha)
    by_cases hm : maxI < val 0 (strip s.data.toList)
    · have hp : parseIntB 64 d.data.toList = .range := by rw [hds]; exact int_range _ hde ha hm
      have key : Told s.data.toList = fun e => ∃ N, e = .returned (.tuple #[.int .i64 0, .iface 45 (.pointer (some ⟨N, 0, none⟩))]) := by
        unfold Told model
        rw [if_neg hde, if_pos ha, if_pos hm]
      rw [key]
      by_cases hlt : d.size < s.size
      · refine (parse_negover F s d w hF (by omega) h0 hd h1 hi hp hv hs hlt).mono ?_
        rintro e w' ⟨N, rfl, hb⟩
        exact ⟨⟨N, rfl⟩, hb⟩
      · refine (parse_over F s d w hF (by omega) h0 hd h1 hi hp hv hs hlt).mono ?_
        rintro e w' ⟨N, rfl, hb⟩
        exact ⟨⟨N, rfl⟩, hb⟩
    · have hp : parseIntB 64 d.data.toList = .ok (val 0 (strip s.data.toList) : Int) := by rw [hds]; exact int_ok _ hde ha (by omega)
      by_cases hlt : d.size < s.size
      · have hneg : isNeg s.data.toList = true := hn.1 (by omega)
        by_cases hz : val 0 (strip s.data.toList) = 0
        · refine (parse_zero s d _ w (by omega) h0 hd h1 hi hp hlt (by rw [hz]; rfl)).mono ?_
          rintro e w' ⟨rfl, hb⟩
          refine ⟨?_, hb⟩
          unfold Told model
          rw [if_neg hde, if_pos ha, if_neg hm, if_neg (by simp [hz])]
        · refine (parse_neg F s d _ w hF (by omega) h0 hd h1 hi hp hlt (by omega)).mono ?_
          rintro e w' ⟨N, rfl, hb⟩
          refine ⟨?_, hb⟩
          unfold Told model
          rw [if_neg hde, if_pos ha, if_neg hm, if_pos (by simp [hz, hneg])]
          exact ⟨N, rfl⟩
      · have hneg : ¬ isNeg s.data.toList = true := fun h => hlt (by have := hn.2 h; omega)
        refine (parse_ok s d _ w (by omega) h0 hd h1 hi hp hlt).mono ?_
        rintro e w' ⟨rfl, hb⟩
        refine ⟨?_, hb⟩
        unfold Told model
        rw [if_neg hde, if_pos ha, if_neg hm, if_neg (by simp [hneg])]
  · refine (parse_bad F s d w hF h0 hd h1 (by rw [hds]; exact ha)).mono ?_
    rintro e w' ⟨N, rfl, hb⟩
    refine ⟨?_, hb⟩
    unfold Told model
    rw [if_neg hde, if_neg ha]
    exact ⟨N, rfl⟩

theorem parse_some (F : Interp) (s : ByteArray) (w : World) (hF : F.answers w.tape) (hmax : s.size ≤ 281474976710656) (hv : ∃ te pe, w.cell? ⟨1, 0, none⟩ = some (.iface te pe)) (hs : 1 < w.heap.size) (v : Nat) (hm : model s.data.toList = some v) :
    Calls Ybaf.prog 10 #[.string s] w fun e w' => e = .returned (.tuple #[.int .i64 (v : Int), .nilIface]) ∧ Below w.heap.size w w' := by
  refine (parse_any F s w hF hmax hv hs).mono ?_
  rintro e w' ⟨ht, hb⟩
  unfold Told at ht; rw [hm] at ht
  exact ⟨ht, hb⟩
theorem parse_none (F : Interp) (s : ByteArray) (w : World) (hF : F.answers w.tape) (hmax : s.size ≤ 281474976710656) (hv : ∃ te pe, w.cell? ⟨1, 0, none⟩ = some (.iface te pe)) (hs : 1 < w.heap.size) (hm : model s.data.toList = none) :
    Calls Ybaf.prog 10 #[.string s] w fun e w' => ∃ N, e = .returned (.tuple #[.int .i64 0, .iface 45 (.pointer (some ⟨N, 0, none⟩))]) ∧ Below w.heap.size w w' := by
  refine (parse_any F s w hF hmax hv hs).mono ?_
  rintro e w' ⟨ht, hb⟩
  unfold Told at ht; rw [hm] at ht
  obtain ⟨N, rfl⟩ := ht
  exact ⟨N, rfl, hb⟩
end Go.Proofs.YbulkbntaFmt
