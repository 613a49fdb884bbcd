import Derived.Test.YbulkbnuqTry
namespace Go.Proofs.Ybulkbnuq
open Go.RowKit Go.MuLone Go.Conc

theorem bd (w : World) : (Instr.build 26 #[]).run Yba.prog w = .ok (.agg #[]) w := run_build w 26 #[] #[] (by kernel_rfl)

set_option maxRecDepth 100000 in
set_option maxHeartbeats 800000 in
theorem nudge_off (b : Nat) (w : World) (hg : w.cell? ⟨b, 25, none⟩ = some (.bool false)) :
    Calls Yba.prog 9 #[.pointer (some ⟨b, 0, none⟩)] w fun e w' => e = .returned (.tuple #[]) ∧ w' = w := by
  go_enter Yba.func9, Yba.ntmps9
  go_wp2
  go_end0
  exact ⟨rfl, rfl⟩

set_option maxRecDepth 100000 in
set_option maxHeartbeats 800000 in
theorem nudge_room (b c s r : Nat) (w : World) (hg : w.cell? ⟨b, 25, none⟩ = some (.bool true)) (hh : w.cell? ⟨b, 26, none⟩ = some (.chan (some c))) (hc : w.heap[c]? = some (.chan 1 #[] false s r false)) :
    Calls Yba.prog 9 #[.pointer (some ⟨b, 0, none⟩)] w fun e w' => e = .returned (.tuple #[]) ∧ w' = w.setChan c 1 #[.agg #[]] false (s + 1) r false := by
  have hbd := bd
  refine calls_of_loneTo fun cs => ?_
  have e : Frame.enter Yba.prog 9 #[.pointer (some ⟨b, 0, none⟩)] .normal = (base 9).at ⟨#[.pointer (some ⟨b, 0, none⟩), undef, undef, undef, undef, undef, undef, undef, undef, undef, undef, undef, undef, undef, undef, undef], []⟩ [.code (Yba.f9.body.getD .skip)] := by
    simp [Frame.enter, Frame.at, Yba.func9, base, Yba.f9]
  rw [e]
  refine LoneTo.goes (n := 60) ?_
  simp only [Yba.f9, Option.getD_some]
  s_c stepG_seq
  s_reg
  s_op
  s_op
  s_op
  s_op
  s_op
  s_c stepG_region_end
  s_cond true
  s_c stepG_seq
  s_c stepG_seq
  s_reg
  s_op
  s_op
  s_op
  s_op
  s_op
  s_c stepG_region_end
  s_reg
  s_op
  s_c stepG_region_end
  s_c stepG_seq
  s_reg
  s_stop
  refine LoneTo.step (step_lone_select_send_room (c := c) (cap := 1) (buf := #[]) (s := s) (r := r) (tm := false) (stepG_comm (cases := #[scase c (.agg #[]) (.agg #[])]) (blocking := false) (shape := .select) (w' := w) rfl rfl (by decide) (by simp [go_sem, execOp, scase, Act.eval])) hc (by simp)) ?_
  rw [Frame.finish_at]
  walk_nrm
  refine LoneTo.goes (n := 20) ?_
  s_op
  s_op
  s_c stepG_region_end
  s_c stepG_block
  s_cond true
  s_c stepG_skip
  s_c stepG_inBlock
  s_c stepG_end
  s_stop
  exact LoneTo.done ⟨.returned (.tuple #[]), _, rfl, ⟨rfl, rfl⟩, rfl, rfl, rfl, rfl, _, Yba.func9, by simp [results, Yba.f9, Frame.at]⟩
set_option maxRecDepth 100000 in
set_option maxHeartbeats 800000 in
theorem nudge_full (b c s r : Nat) (w : World) (hg : w.cell? ⟨b, 25, none⟩ = some (.bool true)) (hh : w.cell? ⟨b, 26, none⟩ = some (.chan (some c))) (hc : w.heap[c]? = some (.chan 1 #[.agg #[]] false s r false)) :
    Calls Yba.prog 9 #[.pointer (some ⟨b, 0, none⟩)] w fun e w' => e = .returned (.tuple #[]) ∧ w' = w := by
  have hbd := bd
  refine calls_of_loneTo fun cs => ?_
  have e : Frame.enter Yba.prog 9 #[.pointer (some ⟨b, 0, none⟩)] .normal = (base 9).at ⟨#[.pointer (some ⟨b, 0, none⟩), undef, undef, undef, undef, undef, undef, undef, undef, undef, undef, undef, undef, undef, undef, undef], []⟩ [.code (Yba.f9.body.getD .skip)] := by
    simp [Frame.enter, Frame.at, Yba.func9, base, Yba.f9]
  rw [e]
  refine LoneTo.goes (n := 60) ?_
  simp only [Yba.f9, Option.getD_some]
  s_c stepG_seq
  s_reg
  s_op
  s_op
  s_op
  s_op
  s_op
  s_c stepG_region_end
  s_cond true
  s_c stepG_seq
  s_c stepG_seq
  s_reg
  s_op
  s_op
  s_op
  s_op
  s_op
  s_c stepG_region_end
  s_reg
  s_op
  s_c stepG_region_end
  s_c stepG_seq
  s_reg
  s_stop
  refine LoneTo.step (step_lone_select_send_full (c := c) (cap := 1) (buf := #[.agg #[]]) (s := s) (r := r) (tm := false) (stepG_comm (cases := #[scase c (.agg #[]) (.agg #[])]) (blocking := false) (shape := .select) (w' := w) rfl rfl (by decide) (by simp [go_sem, execOp, scase, Act.eval])) hc (by simp)) ?_
  rw [Frame.finish_at]
  walk_nrm
  refine LoneTo.goes (n := 20) ?_
  s_op
  s_op
  s_c stepG_region_end
  s_c stepG_block
  s_cond false
  s_c stepG_skip
  s_c stepG_inBlock
  s_c stepG_end
  s_stop
  exact LoneTo.done ⟨.returned (.tuple #[]), _, rfl, ⟨rfl, rfl⟩, rfl, rfl, rfl, rfl, _, Yba.func9, by simp [results, Yba.f9, Frame.at]⟩
end Go.Proofs.Ybulkbnuq
