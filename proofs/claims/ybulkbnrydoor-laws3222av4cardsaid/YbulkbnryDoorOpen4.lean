import Derived.Test.YbulkbnryDoorRows
import Derived.Test.YbulkbnryDoorLaw4
import Derived.Test.YbulkbnryDoorLaw4n
import Derived.ProofKit
import Derived.Deep.Slices
import Derived.LaidMore
import Derived.Stop.Joined
import Derived.ChangeOld
namespace Go.Proofs.YbulkbnryDoor
open Go.ChangeShapes Go.WideShapes Go.ChangeAt Go.RowKit
set_option linter.unusedVariables false

theorem Ybad.own : ownKnob Ybad.prog.godebug = none := by kernel_rfl
theorem Ybad.laidOut : laidOutB Ybad.prog = true := by kernel_rfl
theorem gz4 : Ybad.prog.globalNamed "net/netip.z4" = some 1 := by kernel_rfl
theorem tz4 : (Ybad.prog.globals[1]?).map (·.type) = some 46 := by kernel_rfl
theorem cells46 : Ybad.prog.cellsOf 46 = 1 := by kernel_rfl
theorem cells44 : Ybad.prog.cellsOf 44 = 1 := by kernel_rfl
theorem cells139 : Ybad.prog.cellsOf 139 = 2 := by kernel_rfl
theorem cells26 : Ybad.prog.cellsOf 26 = 3 := by kernel_rfl
theorem cells24 : Ybad.prog.cellsOf 24 = 1 := by kernel_rfl
theorem cells5 : Ybad.prog.cellsOf 5 = 1 := by kernel_rfl
theorem cells23 : Ybad.prog.cellsOf 23 = 1 := by kernel_rfl

theorem len1 {α : Type} {l : List α} (h : l.length = 1) : ∃ a, l = [a] := List.length_eq_one_iff.1 h
theorem len3 {α : Type} {l : List α} (h : l.length = 3) : ∃ a b c, l = [a, b, c] := by
  match l, h with
  | [a, b, c], _ => exact ⟨a, b, c, rfl⟩
section
variable {H : Type} {enc : TypeId × Value → H} {W : World} {base : Nat} {sp : Nat → Bool} {held : Bool}
/-- A handle that came in, opened. -/
theorem open_handle {fuel : Nat} {cs : List Value} {d : DataW H} {p : List MemPlace} (h : DataW.trod enc Ybad.prog W base sp held fuel 46 cs = some (.agg [.ptr d], p)) :
    ∃ (a : Addr) (r : List MemPlace), cs = [.pointer (some a)] ∧ p = MemPlace.row a 2 ++ r := by
  obtain ⟨xs, n, rfl, hx, hlen, hxl, hf⟩ := DataW.trod_struct Ybad.underlying46 h
  have h0 := hf 0 ⟨"value", 44, 0, false, "", "unique", 0⟩ rfl
  rw [cells46] at hlen
  obtain ⟨c, rfl⟩ := len1 hlen
  obtain ⟨y, rfl⟩ := len1 hxl
  simp only [cells44, List.drop_zero, List.take_succ_cons, List.take_zero, List.getElem?_cons_zero] at h0
  simp only [List.map_cons, List.map_nil, List.flatMap_cons, List.flatMap_nil, List.append_nil, Prod.mk.injEq, DataW.agg.injEq, List.cons.injEq, and_true] at hx
  obtain ⟨hx1, hx2⟩ := hx
  rcases DataW.trod_pointer (t := 44) (e := 139) Ybad.underlying44 h0 with ⟨_, hy⟩ | ⟨a, cs', z, m, _, hc, hy, _, _⟩
  · rw [hy] at hx1; simp at hx1
  · rw [hy] at hx2
    rw [cells139] at hx2
    exact ⟨a, z.2, hc, hx2⟩
/-- One network that came in, opened. -/
theorem open_net {fuel : Nat} {cs : List Value} {y : DataW H × List MemPlace} (h : DataW.trod enc Ybad.prog W base sp held fuel 26 cs = some y) :
    ∃ (a b p : Nat), cs = [.int .u32 a, .int .u8 b, .int .u16 p] ∧ a < 4294967296 ∧ b ≤ 255 ∧ p ≤ 65535 := by
  obtain ⟨xs, n, rfl, hx, hlen, hxl, hf⟩ := DataW.trod_struct Ybad.underlying26 h
  have h0 := hf 0 ⟨"Addr", 24, 0, false, "", "", 0⟩ rfl
  have h1 := hf 1 ⟨"Bits", 5, 1, false, "", "", 4⟩ rfl
  have h2 := hf 2 ⟨"Place", 23, 2, false, "", "", 6⟩ rfl
  rw [cells26] at hlen
  obtain ⟨c0, c1, c2, rfl⟩ := len3 hlen
  obtain ⟨y0, y1, y2, rfl⟩ := len3 hxl
  simp only [cells24, cells5, cells23, List.drop_zero, List.drop_succ_cons, List.take_succ_cons, List.take_zero, List.getElem?_cons_zero, List.getElem?_cons_succ] at h0 h1 h2
  obtain ⟨n0, e0, _, w0⟩ := DataW.trod_int Ybad.underlying24 h0
  obtain ⟨n1, e1, _, w1⟩ := DataW.trod_int Ybad.underlying5 h1
  obtain ⟨n2, e2, _, w2⟩ := DataW.trod_int Ybad.underlying23 h2
  simp only [List.cons.injEq, and_true] at e0 e1 e2
  have b0 : 0 ≤ n0 ∧ n0 ≤ 4294967295 := by simpa [Lit.wf, IntKind.min, IntKind.max, IntKind.signed, IntKind.bits] using w0
  have b1 : 0 ≤ n1 ∧ n1 ≤ 255 := by simpa [Lit.wf, IntKind.min, IntKind.max, IntKind.signed, IntKind.bits] using w1
  have b2 : 0 ≤ n2 ∧ n2 ≤ 65535 := by simpa [Lit.wf, IntKind.min, IntKind.max, IntKind.signed, IntKind.bits] using w2
  refine ⟨n0.toNat, n1.toNat, n2.toNat, ?_, by omega, by omega, by omega⟩
  rw [e0, e1, e2, Int.toNat_of_nonneg b0.1, Int.toNat_of_nonneg b1.1, Int.toNat_of_nonneg b2.1]
theorem open_nets {a : Option Addr} {len cap : Nat} {d : DataW H} {p : List MemPlace} (h : DataW.Trod enc Ybad.prog W 0 (fun _ => true) true 22 (.slice a len cap) d p) :
    (∃ es : List Ent, es.length = len ∧ EntsAt W a es) ∧ len ≤ 9223372036854775807 := by
  obtain ⟨fuel, hf⟩ := h
  rcases Deep.open_slice Ybad.underlying22 hf with ⟨hcs, _⟩ | ⟨x, l, c, m, n, D, Pl, hcs, _, hl, hm, hmm, _, hel⟩
  · simp [Value.cells] at hcs
    obtain ⟨rfl, rfl, rfl⟩ := hcs
    exact ⟨⟨[], rfl, fun i e he => by simp at he⟩, by omega⟩
  · simp [Value.cells] at hcs
    obtain ⟨rfl, rfl, rfl⟩ := hcs
    refine ⟨?_, by unfold maxLen at hm; omega⟩
    simp only [if_true] at hmm
    subst hmm
    rw [cells26] at hel
    obtain ⟨b, off, spot⟩ := x
    have key : ∀ i, i < len → ∃ e : Ent, EntAt W (some ⟨b, off, spot⟩) i e := by
      intro i hi
      have hsp : spot = none := by
        obtain ⟨cs0, hc0, ht0⟩ := hel 0 (by omega)
        obtain ⟨_, hl0, hg0⟩ := World.cells?_some hc0
        have := hg0 0 (by omega)
        rw [List.getElem?_eq_getElem (by omega)] at this
        simpa [Addr.add] using World.cell?_spot this
      subst hsp
      obtain ⟨cs', hc', ht'⟩ := hel i (by omega)
      obtain ⟨ea, bt, p, rfl, h0, h1, h2⟩ := open_net ht'
      obtain ⟨_, _, hg⟩ := World.cells?_some hc'
      have ad : ∀ j, ((⟨b, off, none⟩ : Addr).add (i * 3)).add j = ⟨b, off + i * 3 + j, none⟩ := by
        intro j
        rw [Deep.add_add]
        unfold Addr.add
        split
        · rename_i h0
          have : i * 3 = 0 := by omega
          have : j = 0 := by omega
          subst this
          simp only [Addr.mk.injEq, true_and, and_true]; omega
        · simp only [Addr.mk.injEq, true_and, and_true]; omega
      have g0 := hg 0 (by omega)
      have g1 := hg 1 (by omega)
      have g2 := hg 2 (by omega)
      rw [ad] at g0 g1 g2
      exact ⟨⟨ea, bt, p⟩, ⟨⟨b, off, rfl, block_lt_of_cell g0, g0, g1, g2⟩, h0, h1, h2⟩⟩
    have : Inhabited Ent := ⟨⟨0, 0, 0⟩⟩
    obtain ⟨f, hf⟩ := Deep.choose_lt key
    refine ⟨(List.range len).map f, by simp, fun i e he => ?_⟩
    have hi : i < len := by
      have := (List.getElem?_eq_some_iff.1 he).1
      simpa using this
    rw [List.getElem?_map, List.getElem?_range hi] at he
    simp at he
    subst he
    exact hf i hi
end
theorem z4_of_laid {W : World} (h : laidMetH Ybad.prog Rows.lawS3222AV4Row.laid W) : ∃ p4, Z4 W p4 := by
  rw [MakeChecks.laidMetH_plain _ _ _ (by kernel_rfl)] at h
  obtain ⟨ps, ⟨g0, t0, cs0, f0, p0, q0, hg0, ht0, hv0, hd0, _, hps⟩, hnd, hpl⟩ := h
  obtain rfl := Option.some.inj (gz4.symm.trans hg0)
  obtain rfl := Option.some.inj (tz4.symm.trans ht0)
  obtain ⟨a4, r4, e4, hp0⟩ := open_handle hd0
  have c1 : W.cell? ⟨1, 0, none⟩ = some (.pointer (some a4)) := by
    have := World.var?_cell hg0 hv0 0
    rw [Array.eq_one_of_toList e4] at this
    simpa using this
  exact ⟨a4, block_lt_of_cell c1, c1⟩
end Go.Proofs.YbulkbnryDoor
