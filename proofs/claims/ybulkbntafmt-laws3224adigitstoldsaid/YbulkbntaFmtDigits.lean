import Derived.Test.YbulkbntaFmtCheck
import Derived.OwnWalk
import Derived.Laws.BytesArg
namespace Go.Proofs.YbulkbntaFmt
open Go.RowKit Go.Lib Go.Extern.Stop Go.Stop Go.Extern

theorem Ybaf.info5 : (Ybaf.prog.info? 5).map (fun i => (i.zero, i.size, i.bytes)) = some (some (.int .u8 0), 1, 1) := by kernel_rfl

/-- A slice of bytes that came in, as far as the loop reads it. -/
def Row (w : World) (a : Option Addr) (len : Nat) : Prop :=
  ∀ k, k < len → ∃ b off z, a = some ⟨b, off, none⟩ ∧ b < w.heap.size ∧ w.cell? ⟨b, off + k, none⟩ = some (.int .u8 z)

theorem conv_own {w : World} {base g n cap : Nat} {xs : List Int} (h : w.ownsRow base 5 1 (.slice (some ⟨g, 0, none⟩) n cap) n (xs.map (Value.int .u8))) :
    (convert 23 9 (.slice (some ⟨g, 0, none⟩) n cap)).run Ybaf.prog w = .ok (.string (strOfNums xs)) w := by
  have hl : xs.length = n := by simpa using h.1
  refine run_convert_bytes_arg w 23 5 Ybaf.underlying23 Ybaf.underlying5 g 0 n cap xs hl ?_ 9 Ybaf.underlying9
  intro i hi
  have := h.cellAt i (by omega)
  rw [Nat.zero_add, this]
  simp [List.getD, List.getElem?_eq_getElem (by omega : i < xs.length)]

/-- The loop's relation. -/
def DRel (w : World) (len c : Nat) (v i : Value) (wr : World) : Prop :=
  ∃ (k n : Nat) (xs : List Int), k ≤ len ∧ n = c + k ∧ i = .int .i64 k ∧ v = .slice (some ⟨w.heap.size, 0, none⟩) n (len + 1) ∧
    wr.ownsRow w.heap.size 5 1 (.slice (some ⟨w.heap.size, 0, none⟩) n (len + 1)) n (xs.map (Value.int .u8)) ∧ Below w.heap.size w wr

set_option maxRecDepth 100000 in
theorem digits_long (a : Option Addr) (len cap : Nat) (neg : Bool) (n0 : Int) (s0 : Bool) (w : World) (hm : len ≤ 9223372036854775807) (hl : 1024 < len) :
    Calls Ybaf.prog 4 #[.slice a len cap, .bool neg, .int .i64 n0, .bool s0] w fun e w' => e = .returned (.bool true) ∧ Below w.heap.size w w' := by
  go_enter Ybaf.func4, Ybaf.ntmps4
  go_wp2
  go_ret
  exact ⟨rfl, Below.refl _ _⟩

set_option maxRecDepth 100000 in
set_option maxHeartbeats 1600000 in
theorem digits_pos (F : Interp) (a : Option Addr) (len cap : Nat) (n0 : Int) (s0 : Bool) (w : World) (hF : F.answers w.tape) (hv : Hid (∃ te pe, w.cell? ⟨1, 0, none⟩ = some (.iface te pe))) (hs : 1 < w.heap.size) (hl : len ≤ 1024) (hrow : Hid (Row w a len)) :
    Calls Ybaf.prog 4 #[.slice a len cap, .bool false, .int .i64 n0, .bool s0] w fun e w' => e = .returned (.bool true) ∧ Below w.heap.size w w' := by
  obtain ⟨i0, hi, hz0, hz1, hz2⟩ := info_parts Ybaf.info5
  go_enter Ybaf.func4, Ybaf.ntmps4
  go_wp2_with (at_make; refine wpList_make_own _ rfl _ _ 23 rfl w.heap.size 5 i0 (.int .u8 0) 1 Ybaf.underlying23 hi hz0 hz1 _ _ _ (len + 1) rfl rfl (by omega) ?b2 ?b3 (Nat.le_refl _) ?_)
  case b2 => rw [hz2]; omega
  case b3 => unfold maxLen; omega
  intro w0 hown0 hgrow0
  have hb0 : Below w.heap.size w w0 := (Below.refl _ _).grown hgrow0 (Nat.le_refl _) (fun k h => by cases h)
  have hst : DRel w len 0 (.slice (some ⟨w.heap.size, 0, none⟩) 0 (len + 1)) (.int .i64 0) w0 := ⟨0, 0, [], Nat.zero_le _, rfl, rfl, rfl, hown0, hb0⟩
  clear hown0 hgrow0 hb0
  have HST : Hid _ := hst
  clear hst
  go_wp2
  go_loopw [9, 10] (DRel w len 0) (fun _ i _ => len - (intOf i).toNat)
  case atStart => exact HST.out
  case round =>
    clear HST
    obtain ⟨k, n, xs, hk, hn0, rfl, rfl, hown0, hnx0⟩ := hrel
    have hn : Hid _ := hn0
    have hnl : n ≤ 1025 := by omega
    clear hn0
    have hown : Hid (wr.ownsRow w.heap.size 5 1 (.slice (some ⟨w.heap.size, 0, none⟩) n (len + 1)) n (xs.map (Value.int .u8))) := hown0
    have hnx : Hid _ := hnx0
    clear hown0 hnx0
    by_cases hlt : k < len
    · obtain ⟨b, off, z, rfl, hb, hc⟩ := hrow.out k hlt
      have hc' := (hnx.out.cell (p := ⟨b, off + k, none⟩) hb).trans hc
      clear hc
      go_wp2_with (at_builtin; refine wpList_append_fits _ rfl (.tmp 28) (.tmp 35) 23 rfl w.heap.size 5 i0 1 Ybaf.underlying23 hi hz1 w.heap.size n (len + 1) _ rfl (hown.out.alloc _) ⟨wr.heap.size, 0, none⟩ 1 1 [.int .u8 ((48 + z.tmod 10) % 256)] rfl rfl (by intro t u ht; match t, ht with | 0, ht => simp at ht; subst ht; simp [Addr.add]) (by intro u hu; simp at hu; subst hu; rfl) (by have := hn.out; omega) ?_)
      intro w1 hown1 hgrow1
      have hown2 : w1.ownsRow w.heap.size 5 1 (.slice (some ⟨w.heap.size, 0, none⟩) (n + 1) (len + 1)) (n + 1) ((xs ++ [(48 + z.tmod 10) % 256]).map (Value.int .u8)) := by simpa using hown1
      have hb1 : Below w.heap.size w w1 := (hnx.out.alloc hnx.out.size _).grown hgrow1 (by simp; have := hnx.out.size; omega) (fun k hk => by cases hk; exact Nat.le_refl _)
      have hown3 : Hid _ := hown2
      have hb3 : Hid _ := hb1
      clear hown1 hgrow1 hown2 hb1 hc'
      go_wp2
      go_roundw
      case rel => exact ⟨k + 1, n + 1, _, hlt, by have := hn.out; omega, by go_num, rfl, hown3.out, hb3.out⟩
      case measure => simp [intOf]; omega
    · have hconv := conv_own hown.out
      have hF1 := answers_below hF hnx.out
      obtain ⟨te, pe, he⟩ := hv.out
      have he1 : Hid _ := (hnx.out.cell (p := ⟨1, 0, none⟩) hs).trans he
      clear he
      have hs1 := Nat.lt_of_lt_of_le hs hnx.out.size
      have hxl : Hid (xs.length = n) := by show xs.length = n; have := hown.out.1; simpa using this
      go_wp2_with fail
      refine (check_any F (strOfNums xs) n0 s0 wr hF1 (by rw [strOfNums_size]; have := hxl.out; omega) ⟨te, pe, he1.out⟩ hs1).mono ?_
      rintro e w2 ⟨rfl, hb2⟩
      go_wp2
      go_ret
      exact ⟨rfl, hnx.out.trans (hb2.mono hnx.out.size)⟩

set_option maxRecDepth 100000 in
set_option maxHeartbeats 1600000 in
theorem digits_neg (F : Interp) (a : Option Addr) (len cap : Nat) (n0 : Int) (s0 : Bool) (w : World) (hF : F.answers w.tape) (hv : Hid (∃ te pe, w.cell? ⟨1, 0, none⟩ = some (.iface te pe))) (hs : 1 < w.heap.size) (hl : len ≤ 1024) (hrow : Hid (Row w a len)) :
    Calls Ybaf.prog 4 #[.slice a len cap, .bool true, .int .i64 n0, .bool s0] w fun e w' => e = .returned (.bool true) ∧ Below w.heap.size w w' := by
  obtain ⟨i0, hi, hz0, hz1, hz2⟩ := info_parts Ybaf.info5
  go_enter Ybaf.func4, Ybaf.ntmps4
  go_wp2_with (at_make; refine wpList_make_own _ rfl _ _ 23 rfl w.heap.size 5 i0 (.int .u8 0) 1 Ybaf.underlying23 hi hz0 hz1 _ _ _ (len + 1) rfl rfl (by omega) ?b2 ?b3 (Nat.le_refl _) ?_)
  case b2 => rw [hz2]; omega
  case b3 => unfold maxLen; omega
  intro w0 hown0 hgrow0
  have hb0 : Below w.heap.size w w0 := (Below.refl _ _).grown hgrow0 (Nat.le_refl _) (fun k h => by cases h)
  go_wp2_with (at_builtin; refine wpList_append_fits _ rfl (.tmp 19) (.tmp 20) 23 rfl w.heap.size 5 i0 1 Ybaf.underlying23 hi hz1 w.heap.size 0 (len + 1) _ rfl (hown0.alloc _) ⟨w0.heap.size, 0, none⟩ 1 1 [.int .u8 45] rfl rfl (by intro t u ht; match t, ht with | 0, ht => simp at ht; subst ht; simp [Addr.add]) (by intro u hu; simp at hu; subst hu; rfl) (by omega) ?_)
  intro w1 hown1 hgrow1
  have hb1 : Below w.heap.size w w1 := (hb0.alloc hb0.size _).grown hgrow1 (by simp; have := hb0.size; omega) (fun k hk => by cases hk; exact Nat.le_refl _)
  clear hown0 hgrow0
  have hst : DRel w len 1 (.slice (some ⟨w.heap.size, 0, none⟩) 1 (len + 1)) (.int .i64 0) w1 := ⟨0, 1, [45], Nat.zero_le _, rfl, rfl, rfl, hown1, hb1⟩
  clear hown1 hgrow1 hb1 hb0
  have HST : Hid _ := hst
  clear hst
  go_wp2
  go_loopw [9, 10] (DRel w len 1) (fun _ i _ => len - (intOf i).toNat)
  case atStart => exact HST.out
  case round =>
    clear HST
    obtain ⟨k, n, xs, hk, hn0, rfl, rfl, hown0, hnx0⟩ := hrel
    have hn : Hid _ := hn0
    have hnl : n ≤ 1025 := by omega
    clear hn0
    have hown : Hid (wr.ownsRow w.heap.size 5 1 (.slice (some ⟨w.heap.size, 0, none⟩) n (len + 1)) n (xs.map (Value.int .u8))) := hown0
    have hnx : Hid _ := hnx0
    clear hown0 hnx0
    by_cases hlt : k < len
    · obtain ⟨b, off, z, rfl, hb, hc⟩ := hrow.out k hlt
      have hc' := (hnx.out.cell (p := ⟨b, off + k, none⟩) hb).trans hc
      clear hc
      go_wp2_with (at_builtin; refine wpList_append_fits _ rfl (.tmp 28) (.tmp 35) 23 rfl w.heap.size 5 i0 1 Ybaf.underlying23 hi hz1 w.heap.size n (len + 1) _ rfl (hown.out.alloc _) ⟨wr.heap.size, 0, none⟩ 1 1 [.int .u8 ((48 + z.tmod 10) % 256)] rfl rfl (by intro t u ht; match t, ht with | 0, ht => simp at ht; subst ht; simp [Addr.add]) (by intro u hu; simp at hu; subst hu; rfl) (by have := hn.out; omega) ?_)
      intro w1 hown1 hgrow1
      have hown2 : w1.ownsRow w.heap.size 5 1 (.slice (some ⟨w.heap.size, 0, none⟩) (n + 1) (len + 1)) (n + 1) ((xs ++ [(48 + z.tmod 10) % 256]).map (Value.int .u8)) := by simpa using hown1
      have hb1 : Below w.heap.size w w1 := (hnx.out.alloc hnx.out.size _).grown hgrow1 (by simp; have := hnx.out.size; omega) (fun k hk => by cases hk; exact Nat.le_refl _)
      have hown3 : Hid _ := hown2
      have hb3 : Hid _ := hb1
      clear hown1 hgrow1 hown2 hb1 hc'
      go_wp2
      go_roundw
      case rel => exact ⟨k + 1, n + 1, _, hlt, by have := hn.out; omega, by go_num, rfl, hown3.out, hb3.out⟩
      case measure => simp [intOf]; omega
    · have hconv := conv_own hown.out
      have hF1 := answers_below hF hnx.out
      obtain ⟨te, pe, he⟩ := hv.out
      have he1 : Hid _ := (hnx.out.cell (p := ⟨1, 0, none⟩) hs).trans he
      clear he
      have hs1 := Nat.lt_of_lt_of_le hs hnx.out.size
      have hxl : Hid (xs.length = n) := by show xs.length = n; have := hown.out.1; simpa using this
      go_wp2_with fail
      refine (check_any F (strOfNums xs) n0 s0 wr hF1 (by rw [strOfNums_size]; have := hxl.out; omega) ⟨te, pe, he1.out⟩ hs1).mono ?_
      rintro e w2 ⟨rfl, hb2⟩
      go_wp2
      go_ret
      exact ⟨rfl, hnx.out.trans (hb2.mono hnx.out.size)⟩
end Go.Proofs.YbulkbntaFmt
