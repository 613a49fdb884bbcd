import Derived.Test.YbulkbnryDoorRows
import Derived.Test.YbulkbnryDoorLaw6
import Derived.Test.YbulkbnryDoorLaw6n
import Derived.ProofKit
import Derived.Deep.Slices
import Derived.LaidMore
import Derived.Stop.Joined
import Derived.ChangeOld
namespace Go.Proofs.YbulkbnryDoor
open Go.ChangeShapes Go.WideShapes Go.ChangeAt Go.RowKit
set_option linter.unusedVariables false

theorem Ybad.own : ownKnob Ybad.prog.godebug = none := by kernel_rfl
theorem Ybad.laidOut : laidOutB Ybad.prog = true := by kernel_rfl
theorem gz4 : Ybad.prog.globalNamed "net/netip.z4" = some 1 := by kernel_rfl
theorem gz6 : Ybad.prog.globalNamed "net/netip.z6noz" = some 2 := by kernel_rfl
theorem tz4 : (Ybad.prog.globals[1]?).map (·.type) = some 46 := by kernel_rfl
theorem tz6 : (Ybad.prog.globals[2]?).map (·.type) = some 46 := by kernel_rfl
theorem cells46 : Ybad.prog.cellsOf 46 = 1 := by kernel_rfl
theorem cells44 : Ybad.prog.cellsOf 44 = 1 := by kernel_rfl
theorem cells139 : Ybad.prog.cellsOf 139 = 2 := by kernel_rfl
theorem cells56 : Ybad.prog.cellsOf 56 = 4 := by kernel_rfl
theorem cells35 : Ybad.prog.cellsOf 35 = 1 := by kernel_rfl
theorem cells5 : Ybad.prog.cellsOf 5 = 1 := by kernel_rfl
theorem cells23 : Ybad.prog.cellsOf 23 = 1 := by kernel_rfl

theorem len1 {α : Type} {l : List α} (h : l.length = 1) : ∃ a, l = [a] := List.length_eq_one_iff.1 h
theorem len4 {α : Type} {l : List α} (h : l.length = 4) : ∃ a b c d, l = [a, b, c, d] := by
  match l, h with
  | [a, b, c, d], _ => exact ⟨a, b, c, d, rfl⟩
section
variable {H : Type} {enc : TypeId × Value → H} {W : World} {base : Nat} {sp : Nat → Bool} {held : Bool}
/-- A handle that came in, opened. -/
theorem open_handle {fuel : Nat} {cs : List Value} {d : DataW H} {p : List MemPlace} (h : DataW.trod enc Ybad.prog W base sp held fuel 46 cs = some (.agg [.ptr d], p)) :
    ∃ (a : Addr) (r : List MemPlace), cs = [.pointer (some a)] ∧ p = MemPlace.row a 2 ++ r := by
  obtain ⟨xs, n, rfl, hx, hlen, hxl, hf⟩ := DataW.trod_struct Ybad.underlying46 h
  have h0 := hf 0 ⟨"value", 44, 0, false, "", "unique", 0⟩ rfl
  rw [cells46] at hlen
  obtain ⟨c, rfl⟩ := len1 hlen
  obtain ⟨y, rfl⟩ := len1 hxl
  simp only [cells44, List.drop_zero, List.take_succ_cons, List.take_zero, List.getElem?_cons_zero] at h0
  simp only [List.map_cons, List.map_nil, List.flatMap_cons, List.flatMap_nil, List.append_nil, Prod.mk.injEq, DataW.agg.injEq, List.cons.injEq, and_true] at hx
  obtain ⟨hx1, hx2⟩ := hx
  rcases DataW.trod_pointer (t := 44) (e := 139) Ybad.underlying44 h0 with ⟨_, hy⟩ | ⟨a, cs', z, m, _, hc, hy, _, _⟩
  · rw [hy] at hx1; simp at hx1
  · rw [hy] at hx2
    rw [cells139] at hx2
    exact ⟨a, z.2, hc, hx2⟩
/-- One network that came in, opened. -/
theorem open_net {fuel : Nat} {cs : List Value} {y : DataW H × List MemPlace} (h : DataW.trod enc Ybad.prog W base sp held fuel 56 cs = some y) :
    ∃ (hi lo : Int) (b p : Nat), cs = [.int .u64 hi, .int .u64 lo, .int .u8 b, .int .u16 p] ∧ b ≤ 255 ∧ p ≤ 65535 := by
  obtain ⟨xs, n, rfl, hx, hlen, hxl, hf⟩ := DataW.trod_struct Ybad.underlying56 h
  have h0 := hf 0 ⟨"Hi", 35, 0, false, "", "", 0⟩ rfl
  have h1 := hf 1 ⟨"Lo", 35, 1, false, "", "", 8⟩ rfl
  have h2 := hf 2 ⟨"Bits", 5, 2, false, "", "", 16⟩ rfl
  have h3 := hf 3 ⟨"Place", 23, 3, false, "", "", 18⟩ rfl
  rw [cells56] at hlen
  obtain ⟨c0, c1, c2, c3, rfl⟩ := len4 hlen
  obtain ⟨y0, y1, y2, y3, rfl⟩ := len4 hxl
  simp only [cells35, cells5, cells23, List.drop_zero, List.drop_succ_cons, List.take_succ_cons, List.take_zero, List.getElem?_cons_zero, List.getElem?_cons_succ] at h0 h1 h2 h3
  obtain ⟨n0, e0, _, _⟩ := DataW.trod_int Ybad.underlying35 h0
  obtain ⟨n1, e1, _, _⟩ := DataW.trod_int Ybad.underlying35 h1
  obtain ⟨n2, e2, _, w2⟩ := DataW.trod_int Ybad.underlying5 h2
  obtain ⟨n3, e3, _, w3⟩ := DataW.trod_int Ybad.underlying23 h3
  simp only [List.cons.injEq, and_true] at e0 e1 e2 e3
  have b2 : 0 ≤ n2 ∧ n2 ≤ 255 := by simpa [Lit.wf, IntKind.min, IntKind.max, IntKind.signed, IntKind.bits] using w2
  have b3 : 0 ≤ n3 ∧ n3 ≤ 65535 := by simpa [Lit.wf, IntKind.min, IntKind.max, IntKind.signed, IntKind.bits] using w3
  refine ⟨n0, n1, n2.toNat, n3.toNat, ?_, by omega, by omega⟩
  rw [e0, e1, e2, e3, Int.toNat_of_nonneg b2.1, Int.toNat_of_nonneg b3.1]
theorem open_nets {a : Option Addr} {len cap : Nat} {d : DataW H} {p : List MemPlace} (h : DataW.Trod enc Ybad.prog W 0 (fun _ => true) true 54 (.slice a len cap) d p) :
    (∃ es : List Ent, es.length = len ∧ EntsAt W a es) ∧ len ≤ 9223372036854775807 := by
  obtain ⟨fuel, hf⟩ := h
  rcases Deep.open_slice Ybad.underlying54 hf with ⟨hcs, _⟩ | ⟨x, l, c, m, n, D, Pl, hcs, _, hl, hm, hmm, _, hel⟩
  · simp [Value.cells] at hcs
    obtain ⟨rfl, rfl, rfl⟩ := hcs
    exact ⟨⟨[], rfl, fun i e he => by simp at he⟩, by omega⟩
  · simp [Value.cells] at hcs
    obtain ⟨rfl, rfl, rfl⟩ := hcs
    refine ⟨?_, by unfold maxLen at hm; omega⟩
    simp only [if_true] at hmm
    subst hmm
    rw [cells56] at hel
    obtain ⟨b, off, spot⟩ := x
    have key : ∀ i, i < len → ∃ e : Ent, EntAt W (some ⟨b, off, spot⟩) i e := by
      intro i hi
      have hsp : spot = none := by
        obtain ⟨cs0, hc0, ht0⟩ := hel 0 (by omega)
        obtain ⟨_, hl0, hg0⟩ := World.cells?_some hc0
        have := hg0 0 (by omega)
        rw [List.getElem?_eq_getElem (by omega)] at this
        simpa [Addr.add] using World.cell?_spot this
      subst hsp
      obtain ⟨cs', hc', ht'⟩ := hel i (by omega)
      obtain ⟨hi', lo, bt, p, rfl, h1, h2⟩ := open_net ht'
      obtain ⟨_, _, hg⟩ := World.cells?_some hc'
      have ad : ∀ j, ((⟨b, off, none⟩ : Addr).add (i * 4)).add j = ⟨b, off + i * 4 + j, none⟩ := by
        intro j
        rw [Deep.add_add]
        unfold Addr.add
        split
        · rename_i h0
          have : i * 4 = 0 := by omega
          have : j = 0 := by omega
          subst this
          simp only [Addr.mk.injEq, true_and, and_true]; omega
        · simp only [Addr.mk.injEq, true_and, and_true]; omega
      have g0 := hg 0 (by omega)
      have g1 := hg 1 (by omega)
      have g2 := hg 2 (by omega)
      have g3 := hg 3 (by omega)
      rw [ad] at g0 g1 g2 g3
      exact ⟨⟨hi', lo, bt, p⟩, ⟨⟨b, off, rfl, block_lt_of_cell g0, g0, g1, g2, g3⟩, h1, h2⟩⟩
    have : Inhabited Ent := ⟨⟨0, 0, 0, 0⟩⟩
    obtain ⟨f, hf⟩ := Deep.choose_lt key
    refine ⟨(List.range len).map f, by simp, fun i e he => ?_⟩
    have hi : i < len := by
      have := (List.getElem?_eq_some_iff.1 he).1
      simpa using this
    rw [List.getElem?_map, List.getElem?_range hi] at he
    simp at he
    subst he
    exact hf i hi
end
theorem zs_of_laid {W : World} (h : laidMetH Ybad.prog Rows.lawS3222AV6Row.laid W) : ∃ p4 p6, Zs W p4 p6 := by
  rw [MakeChecks.laidMetH_plain _ _ _ (by kernel_rfl)] at h
  obtain ⟨ps, ⟨g0, t0, cs0, f0, p0, q0, hg0, ht0, hv0, hd0, ⟨g1, t1, cs1, f1, p1, q1, hg1, ht1, hv1, hd1, _, hq0⟩, hps⟩, hnd, hpl⟩ := h
  obtain rfl := Option.some.inj (gz4.symm.trans hg0)
  obtain rfl := Option.some.inj (gz6.symm.trans hg1)
  obtain rfl := Option.some.inj (tz4.symm.trans ht0)
  obtain rfl := Option.some.inj (tz6.symm.trans ht1)
  obtain ⟨a4, r4, e4, hp0⟩ := open_handle hd0
  obtain ⟨a6, r6, e6, hp1⟩ := open_handle hd1
  have c1 : W.cell? ⟨1, 0, none⟩ = some (.pointer (some a4)) := by
    have := World.var?_cell hg0 hv0 0
    rw [Array.eq_one_of_toList e4] at this
    simpa using this
  have c2 : W.cell? ⟨2, 0, none⟩ = some (.pointer (some a6)) := by
    have := World.var?_cell hg1 hv1 0
    rw [Array.eq_one_of_toList e6] at this
    simpa using this
  have m4 : MemPlace.cell a4.block a4.off ∈ p0 := by rw [hp0]; exact List.mem_append_left _ (by simp [MemPlace.row, List.range_succ])
  have m6 : MemPlace.cell a6.block a6.off ∈ q0 := by rw [hq0, hp1]; exact List.mem_append_left _ (List.mem_append_right _ (List.mem_append_left _ (by simp [MemPlace.row, List.range_succ])))
  refine ⟨a4, a6, block_lt_of_cell c1, block_lt_of_cell c2, c1, c2, ?_, (hpl _ _ (by rw [hps]; exact List.mem_append_left _ (List.mem_append_right _ m4))).1, (hpl _ _ (by rw [hps]; exact List.mem_append_right _ m6)).1⟩
  rintro rfl
  rw [hps] at hnd
  exact (List.nodup_append.1 hnd).2.2 _ (List.mem_append_right _ m4) _ m6 rfl
end Go.Proofs.YbulkbnryDoor
