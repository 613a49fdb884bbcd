import Derived.Test.YbulkbntaFmtPlain
import Derived.Test.YbulkbntaFmtShelf
import Derived.WalkKit
import Derived.WalkSpells
import Derived.WalkLawsBesides
import Derived.Conc.MuLone
namespace Go.Proofs.YbulkbntaFmt
open Go.RowKit Go.Lib

/-- No decimal digit, of a rune. -/
def noDig (r : Nat) : Bool := decide (r < 48) || decide (57 < r)

theorem idx_from (s : ByteArray) : ∀ f pos, s.size ≤ f + pos →
    ((∀ i (h : i < s.size), pos ≤ i → isDig s[i] = true) → idxFuncFrom noDig true s f pos = -1) ∧ ((∃ i, ∃ h : i < s.size, pos ≤ i ∧ isDig s[i] = false) → 0 ≤ idxFuncFrom noDig true s f pos) := by
  intro f
  induction f with
  | zero =>
    intro pos hp
    exact ⟨fun _ => rfl, fun ⟨i, hi, hpi, _⟩ => by omega⟩
  | succ f ih =>
    intro pos hp
    by_cases hlt : pos < s.size
    · by_cases hd : isDig s[pos] = true
      · have hd' : 48 ≤ s[pos].toNat ∧ s[pos].toNat ≤ 57 := by simpa [isDig] using hd
        have e := decode_ascii s pos hlt (by omega)
        have hn : noDig s[pos].toNat = false := by simp [noDig]; omega
        have e2 : idxFuncFrom noDig true s (f + 1) pos = idxFuncFrom noDig true s f (pos + 1) := by
          simp only [idxFuncFrom, if_pos hlt, e, hn, Bool.false_eq_true, if_false]
        rw [e2]
        obtain ⟨h1, h2⟩ := ih (pos + 1) (by omega)
        refine ⟨fun h => h1 fun i hi hpi => h i hi (by omega), fun ⟨i, hi, hpi, hf⟩ => h2 ⟨i, hi, ?_, hf⟩⟩
        by_cases hx : i = pos
        · subst hx; rw [hd] at hf; cases hf
        · omega
      · have hdf : isDig s[pos] = false := by simpa using hd
        have hn : noDig (Utf8.decode s pos).1 = true := by
          by_cases ha : s[pos].toNat < 128
          · rw [decode_ascii s pos hlt ha]
            have : ¬ (48 ≤ s[pos].toNat ∧ s[pos].toNat ≤ 57) := by simpa [isDig] using hd
            simp [noDig]; omega
          · have := (decode_high s pos hlt (by omega)).1
            simp [noDig]; omega
        have e2 : idxFuncFrom noDig true s (f + 1) pos = pos := by
          simp only [idxFuncFrom, if_pos hlt, hn, if_true]
        rw [e2]
        refine ⟨fun h => ?_, fun _ => by omega⟩
        rw [h pos hlt (Nat.le_refl _)] at hdf; cases hdf
    · rw [idxFuncFrom_end noDig true s (f + 1) pos hlt]
      exact ⟨fun _ => rfl, fun ⟨i, hi, hpi, _⟩ => by omega⟩

theorem all_iff (s : ByteArray) : s.data.toList.all isDig = true ↔ ∀ i (h : i < s.size), isDig s[i] = true := by
  rw [List.all_eq_true]
  constructor
  · intro h i hi
    exact h _ (List.getElem_mem (l := s.data.toList) (by simpa using hi))
  · intro h x hx
    obtain ⟨i, hi, rfl⟩ := List.getElem_of_mem hx
    exact h i (by simpa using hi)

theorem idx_all (s : ByteArray) (h : s.data.toList.all isDig = true) : idxFunc noDig true s = -1 :=
  ((idx_from s s.size 0 (by omega)).1) fun i hi _ => (all_iff s).1 h i hi
theorem idx_some (s : ByteArray) (h : ¬ s.data.toList.all isDig = true) : 0 ≤ idxFunc noDig true s := by
  refine (idx_from s s.size 0 (by omega)).2 ?_
  apply Classical.byContradiction
  intro hn
  refine h ((all_iff s).2 fun i hi => ?_)
  cases hb : isDig s[i] with
  | true => rfl
  | false => exact absurd ⟨i, hi, Nat.zero_le _, hb⟩ hn

set_option maxRecDepth 100000 in
theorem clos_any (x : Nat) (w : World) (_hx : x ≤ 1114111) : Calls Ybaf.prog 15 #[.int .i32 x] w fun e w' => e = .returned (.bool (noDig x)) ∧ w' = w := by
  unfold noDig
  by_cases h : x < 48
  · have h' : (x : Int) < 48 := by omega
    go_enter Ybaf.func15, Ybaf.ntmps15
    go_wp2
    go_ret
    exact ⟨by simp [h], rfl⟩
  · have h' : ¬ (x : Int) < 48 := by omega
    go_enter Ybaf.func15, Ybaf.ntmps15
    go_wp2
    go_ret
    have e : decide ((57 : Int) < (x : Int)) = decide (57 < x) := by
      by_cases k : 57 < x
      · rw [decide_eq_true k, decide_eq_true (by omega)]
      · rw [decide_eq_false k, decide_eq_false (by omega)]
    refine ⟨?_, rfl⟩
    rw [← e]
    rfl

theorem eg15 (args : Array Value) (w : World) : (callFunc 15 args).run Ybaf.prog w = .ok (.enter 15 args) w := by
  exact MuLone.run_callFunc_enter Ybaf.func15 (by kernel_rfl) rfl args w
/-- strings.IndexFunc at ParseShares's own closure. -/
theorem index_any (s : ByteArray) (w : World) : Calls Ybaf.prog 14 #[.string s, .func (.func 15) #[] #[]] w fun e w' => e = .returned (.int .i64 (idxFunc noDig true s)) ∧ Below w.heap.size w w' :=
  Ybaf.strings_IndexFunc_grows 15 #[] eg15 noDig s w fun W x hx _ => (clos_any x W hx).mono fun _ _ ⟨he, hw⟩ => ⟨he, hw ▸ Below.refl _ _⟩
end Go.Proofs.YbulkbntaFmt
