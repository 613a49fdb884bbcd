import Derived.Test.YbulkbnuqLaw
namespace Go.Proofs.Ybulkbnuq
open Go.RowKit Go.MuLone Go.Conc

theorem loneTo_of_wp {P : Program} {f : FuncId} {fn : Func} {c : Code} {a : Act} {w : World} {R : Ending → World → Prop} (hf : P.funcs[f]? = some fn) (hno : ∀ w', ¬ R .outgrown w') (cs : List Frame) (h : c.wp P (bodyPost P fn R) a w) :
    LoneTo P (fun g' w' => ∃ e fr, g' = G fr cs ∧ R e w' ∧ fr.fn = f ∧ fr.leaving P w' e) (G ((base f).at a [.code c]) cs) w := by
  obtain ⟨e, a', w', hq, harr⟩ := h (base f) [] cs
  cases e with
  | normal =>
    obtain ⟨hd, v, hr, hR⟩ := hq
    exact ⟨_, w', Steps.trans harr (.one step_end), .returned v, _, rfl, hR, rfl, rfl, hd, rfl, fn, hf, hr⟩
  | ret =>
    obtain ⟨hd, v, hr, hR⟩ := hq
    obtain ⟨todo, hs⟩ := harr
    exact ⟨_, w', hs, .returned v, _, rfl, hR, rfl, rfl, hd, rfl, fn, hf, hr⟩
  | panic chain =>
    obtain ⟨hd, hR⟩ := hq
    obtain ⟨todo, hs⟩ := harr
    exact ⟨_, w', hs, .panicked chain, _, rfl, hR, rfl, rfl, hd, fn, hf⟩
  | exit id => exact hq.elim
  | goto l => exact hq.elim
  | outgrown => exact absurd hq (hno _)

theorem Inv.sent {w0 w : World} {b c : Nat} {g st : Bool} {ad : Int} (h : Inv w0 w b c g st ad false) {s r : Nat} (hc : w.heap[c]? = some (.chan 1 #[] false s r false)) :
    Inv w0 (w.setChan c 1 #[.agg #[]] false (s + 1) r false) b c g st ad true :=
  ⟨(cell_setChan _ c b _ _ _ _ _ _ _ h.ne).trans h.mu, (cell_setChan _ c b _ _ _ _ _ _ _ h.ne).trans h.add, (cell_setChan _ c b _ _ _ _ _ _ _ h.ne).trans h.gat, (cell_setChan _ c b _ _ _ _ _ _ _ h.ne).trans h.chn, (cell_setChan _ c b _ _ _ _ _ _ _ h.ne).trans h.stp,
    (frozen_setChan w c _ _ _ _ _ _ _ hc).trans h.fz, ⟨s + 1, r, heap_setChan _ c _ _ _ _ _ _ (Array.getElem?_eq_some_iff.1 hc).1⟩, h.lowb, h.lowc, h.ne, grown_setChan h.grown c _ _ _ _ _ _ hc h.lowc⟩

set_option maxRecDepth 100000 in
set_option maxHeartbeats 4000000 in
theorem wakes_on (g st : Bool) (t ad : Int) (w : World) (h0 : 0 ≤ t) (h1 : t ≤ 255) :
    Calls Yba.prog 3 #[.bool g, .bool true, .int .u8 t, .bool st, .int .u64 ad] w fun e w' => e = .returned (.bool true) ∧ Grown w w' := by
  have hmc := mk1
  have hbd := bd
  refine calls_of_loneTo fun cs => ?_
  have e : Frame.enter Yba.prog 3 #[.bool g, .bool true, .int .u8 t, .bool st, .int .u64 ad] .normal = (base 3).at ⟨List.toArray (.bool g :: .bool true :: .int .u8 t :: .bool st :: .int .u64 ad :: undef :: undef :: undef :: undef :: undef :: undef :: undef :: undef :: undef :: undef :: undef :: undef :: undef :: undef :: undef :: undef :: undef :: undef :: undef :: undef :: undef :: undef :: undef :: undef :: undef :: undef :: undef :: undef :: undef :: undef :: undef :: undef :: undef :: undef :: undef :: undef :: undef :: undef :: undef :: undef :: undef :: undef :: undef :: undef :: undef :: undef :: undef :: undef :: undef :: undef :: undef :: undef :: undef :: undef :: undef :: undef :: undef :: undef :: undef :: undef :: undef :: undef :: undef :: undef :: undef :: undef :: undef :: undef :: undef :: undef :: undef :: undef :: undef :: undef :: undef :: undef :: undef :: undef :: undef :: undef :: undef :: undef :: undef :: undef :: undef :: undef :: undef :: undef :: undef :: undef :: undef :: undef :: undef :: undef :: []), []⟩ [.code (Yba.f3.body.getD .skip)] := by
    simp [Frame.enter, Frame.at, Yba.func3, base, Yba.f3, Array.replicate, List.replicate]
  rw [e]
  clear e
  refine LoneTo.goes (n := 100) ?_
  simp only [Yba.f3, Option.getD_some]
  s_c stepG_seq
  s_reg
  s_op
  s_c stepG_region_end
  s_c stepG_seq
  s_reg
  s_op
  s_op
  s_op
  s_c stepG_region_end
  s_c stepG_seq
  s_reg
  s_op
  s_op
  s_op
  s_op
  s_op
  s_op
  s_c stepG_region_end
  s_c stepG_seq
  s_reg
  s_op
  s_op
  s_op
  s_op
  s_op
  s_op
  s_c stepG_region_end
  s_c stepG_seq
  s_reg
  s_op
  s_op
  s_op
  s_op
  s_op
  s_op
  s_c stepG_region_end
  s_c stepG_seq
  s_reg
  s_op
  s_op
  s_op
  s_op
  s_op
  s_c stepG_region_end
  s_c stepG_seq
  s_c stepG_seq
  s_reg
  s_op
  s_c stepG_region_end
  s_cond true
  s_reg
  s_op
  s_op
  s_op
  s_op
  s_op
  s_op
  s_stop
  generalize hW : World.alloc (World.alloc w _) _ = W
  have I : Inv w W w.heap.size (w.heap.size + 1) g st ad false := by
    rw [← hW]; exact inv_new w g st ad _ ⟨rfl, rfl, rfl, rfl, rfl⟩
  clear hW hmc hbd
  obtain ⟨sn, rn, hch⟩ := I.ch
  have hch' : W.heap[w.heap.size + 1]? = some (.chan 1 #[] false sn rn false) := hch
  refine LoneTo.step (step_lone_send_room (c := w.heap.size + 1) (cap := 1) (buf := #[]) (s := sn) (r := rn) (tm := false) (v := .agg #[]) (stepG_comm (cases := #[scase (w.heap.size + 1) (.agg #[]) (.tuple #[])]) (blocking := true) (shape := .send) (w' := W) rfl rfl (by decide) (by simp [go_sem, execOp, scase, Act.eval])) hch' (by simp)) ?_
  rw [Frame.finish_at]
  walk_nrm
  refine LoneTo.goes (n := 5) ?_
  s_c stepG_region_end
  s_stop
  have I2 : Inv w (W.setChan (w.heap.size + 1) 1 #[.agg #[]] false (sn + 1) rn false) w.heap.size (w.heap.size + 1) g st ad true := I.sent hch'
  clear hch hch' I
  generalize W.setChan (w.heap.size + 1) 1 _ false (sn + 1) rn false = W2 at *
  refine loneTo_of_wp Yba.func3 (by rintro _ ⟨h, _⟩; cases h) cs ?_
  go_wp2_with fail
  go_loopw [13] (fun i w' => ∃ k : Nat, (k : Int) ≤ 1 + t % 8 ∧ i = .int .i64 k ∧ Inv w w' w.heap.size (w.heap.size + 1) g st ad true) (fun i _ => (1 + t % 8 - intOf i).toNat)
  case atStart => exact ⟨0, by omega, rfl, I2⟩
  case round =>
    obtain ⟨k, hk, rfl, hI⟩ := hrel
    by_cases hlt : (k : Int) < 1 + t % 8
    · go_wp2_with (go_at_call 5; refine (Nudge_any w _ _ _ g st ad _ hI).mono ?_; rintro e w' ⟨rfl, hI'⟩)
      go_roundw
      case rel => exact ⟨k + 1, by omega, by go_num, hI'⟩
      case measure => simp [intOf]; omega
    · clear I2
      obtain ⟨mu, add, gat, chn, stp, fz, ⟨s, r, ch⟩, lowb, lowc, ne, gr⟩ := hI
      have hlen := fun ty => run_len_chan (P := Yba.prog) 50 ty Yba.underlying50 ch
      have mu1 : (wr.setCell ⟨w.heap.size, 8, none⟩ (.int .i32 1)).cell? ⟨w.heap.size, 8, none⟩ = some (.int .i32 1) := World.cell?_setCell_same _ _ _ mu
      clear ch
      simp only [bufOf, if_true] at hlen
      go_wp2_with fail
      refine (try_free ⟨w.heap.size, 8, none⟩ _ mu fz).mono ?_
      rintro e w' ⟨rfl, rfl⟩
      go_wp2_with fail
      refine (unlock_held Yba.muLib ⟨w.heap.size, 8, none⟩ _ mu1 (by simpa using fz)).mono ?_
      rintro e w' ⟨rfl, rfl⟩
      go_wp2
      go_ret
      exact ⟨rfl, (gr.setCell lowb _).setCell lowb _⟩
end Go.Proofs.Ybulkbnuq
