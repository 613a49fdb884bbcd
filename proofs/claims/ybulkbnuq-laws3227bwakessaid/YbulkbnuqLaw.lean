import Derived.Test.YbulkbnuqInv
import Derived.Conc.LoneSelectN
namespace Go.Proofs.Ybulkbnuq
open Go.RowKit Go.MuLone Go.Conc

theorem bytes26 : ∃ i, Yba.prog.info? 26 = some i ∧ i.bytes = 0 := by
  have h : (Yba.prog.info? 26).map (·.bytes) = some 0 := by kernel_rfl
  obtain ⟨i, hi, hb⟩ := Option.map_eq_some_iff.1 h
  exact ⟨i, hi, hb⟩
theorem mk1 (w : World) : (Instr.makeChan 50 (.int .i64 1)).run Yba.prog w = .ok (.chan (some w.heap.size)) (w.alloc (.chan 1 #[] false 0 0 false)) := by
  obtain ⟨i, hi, hb⟩ := bytes26
  simpa using run_makeChan (P := Yba.prog) (w := w) Yba.underlying50 hi .i64 1 (by omega) (by rw [hb]; omega)

theorem inv_new (w : World) (g st : Bool) (ad : Int) (x : Array Value) (hx : x[8]? = some (.int .i32 0) ∧ x[12]? = some (.int .u64 ad) ∧ x[25]? = some (.bool g) ∧ x[26]? = some (.chan (some (w.heap.size + 1))) ∧ x[36]? = some (.bool st)) :
    Inv w ((w.alloc (.cells x 56)).alloc (.chan 1 #[] false 0 0 false)) w.heap.size (w.heap.size + 1) g st ad false := by
  obtain ⟨h8, h12, h25, h26, h36⟩ := hx
  have old : ∀ o, ((w.alloc (.cells x 56)).alloc (.chan 1 #[] false 0 0 false)).cell? ⟨w.heap.size, o, none⟩ = x[o]? := fun o => by
    rw [World.cell?_alloc_lt _ _ _ (by simp), World.cell?_alloc_new]
  have hn := (MapKept.heap_alloc (w.alloc (.cells x 56)) (.chan 1 #[] false 0 0 false)).1
  rw [World.size_alloc] at hn
  exact ⟨(old 8).trans h8, (old 12).trans h12, (old 25).trans h25, (old 26).trans h26, (old 36).trans h36,
    by rw [World.frozen?_alloc_old _ _ _ (by simp), World.frozen?_alloc_new],
    ⟨0, 0, hn⟩, Nat.le_refl _, by omega, by omega, grown_chan ((Grown.refl w).alloc _ _) _ _ _ _ _ _⟩

theorem full_next {w0 w : World} {b c : Nat} {g st : Bool} {ad : Int} (k : Nat) (h : Inv w0 w b c g st ad ((decide (1 ≤ k) && g) || g)) : Inv w0 w b c g st ad (decide (1 ≤ k + 1) && g) := by
  have e : ((decide (1 ≤ k) && g) || g) = (decide (1 ≤ k + 1) && g) := by cases g <;> simp
  rw [← e]; exact h

set_option maxRecDepth 100000 in
set_option maxHeartbeats 2000000 in
theorem wakes_off (g st : Bool) (t ad : Int) (w : World) (h0 : 0 ≤ t) (h1 : t ≤ 255) :
    Calls Yba.prog 3 #[.bool g, .bool false, .int .u8 t, .bool st, .int .u64 ad] w fun e w' => e = .returned (.bool true) ∧ Grown w w' := by
  have hmc := mk1
  go_enter Yba.func3, Yba.ntmps3
  go_wp2_with fail
  clear hmc
  generalize hW : World.alloc (World.alloc w _) _ = W
  have I : Inv w W w.heap.size (w.heap.size + 1) g st ad false := by
    rw [← hW]; exact inv_new w g st ad _ ⟨rfl, rfl, rfl, rfl, rfl⟩
  clear hW
  go_loopw [13] (fun i w' => ∃ k : Nat, (k : Int) ≤ 1 + t % 8 ∧ i = .int .i64 k ∧ Inv w w' w.heap.size (w.heap.size + 1) g st ad (decide (1 ≤ k) && g)) (fun i _ => (1 + t % 8 - intOf i).toNat)
  case atStart => exact ⟨0, by omega, rfl, I⟩
  case round =>
    obtain ⟨k, hk, rfl, hI⟩ := hrel
    by_cases hlt : (k : Int) < 1 + t % 8
    · go_wp2_with (go_at_call 5; refine (Nudge_any w _ _ _ g st ad _ hI).mono ?_; rintro e w' ⟨rfl, hI'⟩)
      go_roundw
      case rel => exact ⟨k + 1, by omega, by go_num, full_next k hI'⟩
      case measure => simp [intOf]; omega
    · have hk1 : (decide (1 ≤ k) && g) = g := by
        have : 1 ≤ k := by omega
        simp [this]
      rw [hk1] at hI
      clear hk1 I
      obtain ⟨mu, add, gat, chn, stp, fz, ⟨s, r, ch⟩, lowb, lowc, ne, gr⟩ := hI
      have hlen := fun ty => run_len_chan (P := Yba.prog) 50 ty Yba.underlying50 ch
      have mu1 : (wr.setCell ⟨w.heap.size, 8, none⟩ (.int .i32 1)).cell? ⟨w.heap.size, 8, none⟩ = some (.int .i32 1) := World.cell?_setCell_same _ _ _ mu
      clear ch
      cases g
      all_goals
        simp only [bufOf, Bool.false_eq_true, if_false, if_true] at hlen
        go_wp2_with fail
        refine (try_free ⟨w.heap.size, 8, none⟩ _ mu fz).mono ?_
        rintro e w' ⟨rfl, rfl⟩
        go_wp2_with fail
        refine (unlock_held Yba.muLib ⟨w.heap.size, 8, none⟩ _ mu1 (by simpa using fz)).mono ?_
        rintro e w' ⟨rfl, rfl⟩
        go_wp2
        go_ret
        exact ⟨rfl, (gr.setCell lowb _).setCell lowb _⟩
end Go.Proofs.Ybulkbnuq
