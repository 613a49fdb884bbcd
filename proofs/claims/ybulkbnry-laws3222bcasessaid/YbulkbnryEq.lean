import Derived.Test.YbulkbnryBuild
import Derived.LaidEqlPtr
import Derived.ChangeKeysEq
namespace Go.Proofs.Ybulkbnry
open Go.RowKit
set_option linter.unusedSimpArgs false

/-- A pointer that is nil, or points to the head of a block of plain cells. -/
def GP (w : World) (p : Option Addr) : Prop := p = none ∨ ∃ b, p = some ⟨b, 0, none⟩ ∧ Plain w b

theorem GP.far {w w' : World} {p : Option Addr} (h : GP w p) (f : Far w w') : GP w' p := by
  rcases h with h | ⟨b, h, c, t, e⟩
  · exact .inl h
  · refine .inr ⟨b, h, c, t, (f.1.block b ?_).trans e⟩
    have := Array.getElem?_eq_some_iff.1 e
    exact this.1

theorem info30 : ∃ j, Yba.prog.info? 30 = some j ∧ j.size ≠ 0 := ⟨_, rfl, by decide⟩
theorem info23 : ∃ j, Yba.prog.info? 23 = some j := ⟨_, rfl⟩

theorem eqIn_ptr (w : World) (d : Nat) (p q : Option Addr) (hp : GP w p) (hq : GP w q) :
    (Op.equalIn (d + 1) 23 (.pointer p) (.pointer q)).run Yba.prog w = .ok (decide (p = q)) w := by
  obtain ⟨j, hj, hz⟩ := info30
  have hu := Yba.underlying23
  rcases hp with rfl | ⟨b, rfl, c, t, hb⟩ <;> rcases hq with rfl | ⟨b', rfl, c', t', hb'⟩
  · simp [Op.equalIn, run_underlying hu]
  · simp [Op.equalIn, run_underlying hu]
  · simp [Op.equalIn, run_underlying hu]
  · by_cases e : b = b'
    · subst e
      simp [Op.equalIn, run_underlying hu, sizeOf, typeInfo, hj, run_sameAddr_same]
    · have hne : (⟨b, 0, none⟩ : Addr) ≠ ⟨b', 0, none⟩ := fun h => by injection h with h _; exact e h
      simp [Op.equalIn, run_underlying hu, sizeOf, typeInfo, hj, hz, run_sameAddr_other w hne hb hb', e]

theorem cells23 : Yba.prog.cellsOf 23 = 1 := by kernel_rfl

theorem eqIn_arr (w : World) (d : Nat) (p0 p1 q0 q1 : Option Addr) (h0 : GP w p0) (h1 : GP w p1) (k0 : GP w q0) (k1 : GP w q1) :
    (Op.equalIn (d + 2) 24 (.agg #[.pointer p0, .pointer p1]) (.agg #[.pointer q0, .pointer q1])).run Yba.prog w = .ok (decide (p0 = q0) && decide (p1 = q1)) w := by
  obtain ⟨i, hi⟩ := info23
  rw [run_equalIn_array w (d + 1) _ _ Yba.underlying24 hi, cells23]
  have a0 := eqIn_ptr w d p0 q0 h0 k0
  have a1 := eqIn_ptr w d p1 q1 h1 k1
  simp [Op.eqItems, List.range_succ, a0, a1, go_sem, cells23]
  by_cases e0 : p0 = q0 <;> by_cases e1 : p1 = q1 <;> simp [e0, e1]

theorem eql_ptr (w : World) (p q : Option Addr) (hp : GP w p) (hq : GP w q) :
    (binOp .eql 23 (.pointer p) (.pointer q)).run Yba.prog w = .ok (.bool (decide (p = q))) w := by
  simp only [binOp]
  simp [Op.equal, Op.maxDepth, eqIn_ptr w 9999 p q hp hq]

theorem eql_arr (w : World) (p0 p1 q0 q1 : Option Addr) (h0 : GP w p0) (h1 : GP w p1) (k0 : GP w q0) (k1 : GP w q1) :
    (binOp .eql 24 (.agg #[.pointer p0, .pointer p1]) (.agg #[.pointer q0, .pointer q1])).run Yba.prog w = .ok (.bool (decide (p0 = q0) && decide (p1 = q1))) w := by
  rw [run_eql_struct, eqIn_arr w 9998 p0 p1 q0 q1 h0 h1 k0 k1]; rfl
theorem neq_arr (w : World) (p0 p1 q0 q1 : Option Addr) (h0 : GP w p0) (h1 : GP w p1) (k0 : GP w q0) (k1 : GP w q1) :
    (binOp .neq 24 (.agg #[.pointer p0, .pointer p1]) (.agg #[.pointer q0, .pointer q1])).run Yba.prog w = .ok (.bool (!(decide (p0 = q0) && decide (p1 = q1)))) w := by
  rw [run_neq_struct, eqIn_arr w 9998 p0 p1 q0 q1 h0 h1 k0 k1]; rfl

theorem neq_node (w : World) (hi lo n s : Int) (net : Bool) (p0 p1 : Option Addr) (h0 : GP w p0) (h1 : GP w p1) :
    (binOp .neq 30 (.agg #[.int .u64 hi, .int .u64 lo, .int .u8 n, .bool net, .pointer p0, .pointer p1, .int .u64 s]) (.agg #[.int .u64 hi, .int .u64 lo, .int .u8 n, .bool net, .pointer p0, .pointer p1, .int .u64 s])).run Yba.prog w = .ok (.bool false) w := by
  have e := eqIn_arr w 9997 p0 p1 p0 p1 h0 h1 h0 h1
  simp at e
  rw [run_neq_struct]
  simp [go_sem, e]
end Go.Proofs.Ybulkbnry
