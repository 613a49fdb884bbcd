import Derived.Test.YbulkbntaFmtLaid
import Derived.Test.YbulkbntaFmtCheck
import Derived.Test.YbulkbntaFmtCards
import Derived.Test.YbulkbntaFmtTie
import Derived.ProofKit
import Derived.Stop.JoinedAt
import Derived.Stop.JoinedTold
import Derived.Stop.LaidErr
import Derived.Lib.LaidTab
import Derived.SizedLaws
import Derived.Deep.DeepWitnessRef
namespace Go.Proofs.YbulkbntaFmt
open Go.ChangeShapes Go.WideShapes Go.ChangeAt Go.RowKit Go.Kit Go.Lib Go.Shelf
open Go.ChangeMaps (open_string shut_string)
open Go.Extern.Stop Go.Stop Go.Extern

theorem Ybaf.own : ownKnob Ybaf.prog.godebug = none := by kernel_rfl
theorem Ybaf.star : "*" ++ "errors.errorString" = "*errors.errorString" := by decide
theorem Ybaf.row45 (u : TypeId) (h : Ybaf.prog.typeName? 3 u = some "*errors.errorString") : u = 45 :=
  typeName_ptr_named (nm := "errors.errorString") (by rw [Ybaf.star]; kernel_rfl) (by kernel_rfl) (by decide) u (by rw [Ybaf.star]; exact h)

/-- ErrRange's own cell, off what the row lists. -/
theorem err_cell (W : World) (hL : laidMet Ybaf.prog laidAll W) : (∃ te pe, W.cell? ⟨1, 0, none⟩ = some (.iface te pe)) ∧ 1 < W.heap.size := by
  obtain ⟨a1, t1, hv1, hc1, ht1, _⟩ := laid_sentinel (g := 1) hL.tail.tail.tail (by kernel_rfl) (by kernel_rfl) Ybaf.underlying31 Ybaf.row45 Ybaf.underlying45 Ybaf.underlying47 rfl rfl Ybaf.underlying9 (by kernel_rfl) (by kernel_rfl)
  have hc : W.cell? ⟨1, 0, none⟩ = some (.iface 45 (.pointer (some a1))) := by simpa using World.var?_cell (g := 1) (by kernel_rfl) hv1 0
  exact ⟨⟨_, _, hc⟩, block_lt_of_cell hc⟩

set_option maxRecDepth 100000 in
set_option maxHeartbeats 4000000 in
theorem any_lifted (os : Os) (started : os.Started) (H : Type) (enc : TypeId × Value → H) :
    ReturnsInTold none {} Ybaf.checked os 3 .any Input.okWide ((OpenSpec.ofChange Rows.lawS3224AAnyStringSpec).preRow enc Ybaf.prog Ybaf.f3 Rows.lawS3224AAnyStringRow.domain false Rows.lawS3224AAnyStringRow.laid) (fun F => ((OpenSpec.ofChange Rows.lawS3224AAnyStringSpec).at F).post enc Ybaf.prog Ybaf.f3 false true false false) (aloneAtReturn Ybaf.prog) nothingAlways := by
  refine returnsInTold_of_row (C := Ybaf.checked) (s := OpenSpec.ofChange Rows.lawS3224AAnyStringSpec) (by kernel_rfl) Ybaf.own started (by kernel_rfl) Ybaf.func3
    (OpenSpec.witness_stopped_atRef (enc := enc) (C := Ybaf.checked) false (laidWorld os) #[.string ⟨#[]⟩, .int .i64 0, .bool false] rfl (by kernel_rfl) (by kernel_rfl) (by kernel_rfl) (witness_any os enc)) ?_
  intro F W base args ds gs before _ hF hval0 hW hcnd0 _ _ hL _
  have hval : ∀ (j : Nat) t v, Ybaf.f3.params[j]? = some t → args[j]? = some v → Value.okWide Ybaf.prog W .any base t v := hval0
  have hW' := hW
  obtain ⟨p, q, hA0, hV0, rfl, _, _⟩ := hW
  have hA : DataW.TrodAll enc Ybaf.prog W 0 (fun _ => true) true Ybaf.f3.params.toList args.toList ds p := hA0
  rw [Ybaf.params3] at hA hval
  obtain ⟨v0, v1, v2, d0, d1, d2, p0, p1, p2, rfl, rfl, rfl, h0, h1, h2⟩ := trodAll_three hA
  obtain ⟨rfl, rfl⟩ := trodVars_none hV0
  obtain ⟨s, rfl, rfl, rfl, ws⟩ := open_string Ybaf.underlying9 (hval 0 9 v0 rfl rfl) h0
  obtain ⟨n0, rfl, rfl, rfl, wn⟩ := open_int Ybaf.underlying2 (hval 1 2 v1 rfl rfl) h1
  obtain ⟨s0, rfl, rfl, rfl⟩ := open_bool Ybaf.underlying4 (hval 2 4 v2 rfl rfl) h2
  clear hA0 hV0 hval0
  obtain ⟨hv, hs⟩ := err_cell W hL
  refine (any_law F.told s n0 s0 W hF (by unfold maxLen at ws; omega) hv hs).mono ?_
  rintro e W' ⟨rfl, bel⟩
  exact ⟨_, rfl, _, _, _, [], [], [], hW', trodAll_mk1 (shut_bool Ybaf.underlying4 _), trodAll_mk3 (shut_string Ybaf.underlying9 ws) (shut_int Ybaf.underlying2 wn) (shut_bool Ybaf.underlying4 _), rfl, bel.frame _, fun h => by cases h⟩

theorem Ybaf.laidOut : laidOutB Ybaf.pinned.checked.prog = true := by kernel_rfl
theorem Ybaf.stops : Ybaf.pinned.checked.prog.stops = ["fmt.errorf"] := by kernel_rfl
theorem Ybaf.stopKnobs : Ybaf.pinned.checked.prog.stopKnobs = [] := by kernel_rfl
theorem Ybaf.quiet (os : Os) : Stop.quiet Ybaf.pinned.checked.prog os := by
  intro k hk
  rw [Ybaf.stopKnobs] at hk
  cases hk

/-- THE STATEMENT. -/
theorem lawS3224AAnyString.proved : Rows.LawS3224AAnyStringToldSaid :=
  Claim7.holds_of_told_tied_any_at .later 3 Ybaf.f3 "fmt.errorf" [] [] _ _ _ _ _ (by kernel_rfl) rfl rfl rfl Ybaf.laidOut (by kernel_rfl) rfl ⟨rfl, rfl, rfl, rfl, rfl, rfl, rfl⟩ rfl rfl (by kernel_rfl) (by kernel_rfl) Ybaf.func3 (by kernel_rfl)
    (of_decide_eq_true (by kernel_rfl)) (of_decide_eq_true (by kernel_rfl)) Ybaf.stops.symm rfl Ybaf.stopKnobs.symm (by kernel_rfl)
    (by kernel_rfl) (by kernel_rfl) (by kernel_rfl) (by kernel_rfl) (by kernel_rfl) (by kernel_rfl) (by kernel_rfl) (by kernel_rfl) (by kernel_rfl) rfl (by kernel_rfl) rfl rfl
    rfl rfl
    rfl (by kernel_rfl) (by kernel_rfl) (by kernel_rfl) (by decide) (by kernel_rfl) lawS3224AAnyString_row_tie
    (OpenClaim.moreEntering_of (by kernel_rfl) (by kernel_rfl) (by kernel_rfl) (by kernel_rfl) (by kernel_rfl) (by kernel_rfl) (by kernel_rfl) (by kernel_rfl) (by kernel_rfl) (by kernel_rfl))
    ⟨_, WideRow.started_initial, Ybaf.quiet _⟩
    (fun os started _ H enc _ => any_lifted os started H enc)
end Go.Proofs.YbulkbntaFmt
