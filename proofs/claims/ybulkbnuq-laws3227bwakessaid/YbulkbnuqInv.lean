import Derived.Test.YbulkbnuqNudge
namespace Go.Proofs.Ybulkbnuq
open Go.RowKit Go.MuLone Go.Conc

theorem setChan_other (w : World) (c c' cap : Nat) (buf : Array Value) (closed : Bool) (s r : Nat) (tm : Bool) (h : c ≠ c') : (w.setChan c cap buf closed s r tm).heap[c']? = w.heap[c']? := by
  simp [World.setChan, Array.getElem?_setIfInBounds_ne h]
theorem cell_setChan (w : World) (c b o cap : Nat) (buf : Array Value) (closed : Bool) (s r : Nat) (tm : Bool) (h : c ≠ b) : (w.setChan c cap buf closed s r tm).cell? ⟨b, o, none⟩ = w.cell? ⟨b, o, none⟩ :=
  World.cell?_of_block (w := w) (setChan_other w c b cap buf closed s r tm h)
theorem frozen_setChan (w : World) (c cap : Nat) (buf : Array Value) (closed : Bool) (s r : Nat) (tm : Bool) (x : Addr) {cap' : Nat} {buf' : Array Value} {cl' : Bool} {s' r' : Nat} {tm' : Bool}
    (hc : w.heap[c]? = some (.chan cap' buf' cl' s' r' tm')) : (w.setChan c cap buf closed s r tm).frozen? x = w.frozen? x := by
  have hlt : c < w.heap.size := (Array.getElem?_eq_some_iff.1 hc).1
  by_cases h : c = x.block
  · have e1 := heap_setChan w c cap buf closed s r tm hlt
    rw [h] at e1 hc
    simp only [World.frozen?, h, e1, hc]
  · exact World.frozen?_of_block (w := w) (setChan_other w c x.block cap buf closed s r tm h)
theorem grown_setChan {w0 w : World} (hg : Grown w0 w) (c cap : Nat) (buf : Array Value) (closed : Bool) (s r : Nat) (tm : Bool) {cap' : Nat} {buf' : Array Value} {cl' : Bool} {s' r' : Nat} {tm' : Bool}
    (hc : w.heap[c]? = some (.chan cap' buf' cl' s' r' tm')) (hlow : w0.heap.size ≤ c) : Grown w0 (w.setChan c cap buf closed s r tm) := by
  obtain ⟨⟨h1, h2, h3⟩, hf, hs⟩ := hg
  refine ⟨⟨h1, h2, fun i hi => ?_⟩, fun x => (frozen_setChan w c cap buf closed s r tm x hc).trans (hf x), by simpa [World.setChan] using hs⟩
  rw [setChan_other w c i cap buf closed s r tm (by omega)]
  exact h3 i hi
theorem grown_chan {w0 w : World} (hg : Grown w0 w) (cap : Nat) (buf : Array Value) (closed : Bool) (s r : Nat) (tm : Bool) : Grown w0 (w.alloc (.chan cap buf closed s r tm)) := by
  obtain ⟨h1, hf, hs⟩ := hg
  refine ⟨World.keptBut_trans h1 (World.keptBut_alloc _ _ _), fun x => ?_, Nat.le_trans hs (by simp)⟩
  refine Eq.trans ?_ (hf x)
  by_cases h : x.block = w.heap.size
  · have e1 : (w.alloc (.chan cap buf closed s r tm)).heap[x.block]? = some (.chan cap buf closed s r tm) := by rw [h]; exact (MapKept.heap_alloc w _).1
    have e2 : w.heap[x.block]? = none := by rw [h]; simp
    simp [World.frozen?, e1, e2]
  · exact World.frozen?_alloc_old _ _ _ h

def bufOf (full : Bool) : Array Value := if full then #[.agg #[]] else #[]

/-- The log at block b, its channel at block c; the mutex free. -/
structure Inv (w0 w : World) (b c : Nat) (g st : Bool) (ad : Int) (full : Bool) : Prop where
  mu : w.cell? ⟨b, 8, none⟩ = some (.int .i32 0)
  add : w.cell? ⟨b, 12, none⟩ = some (.int .u64 ad)
  gat : w.cell? ⟨b, 25, none⟩ = some (.bool g)
  chn : w.cell? ⟨b, 26, none⟩ = some (.chan (some c))
  stp : w.cell? ⟨b, 36, none⟩ = some (.bool st)
  fz : w.frozen? ⟨b, 8, none⟩ = false
  ch : ∃ s r, w.heap[c]? = some (.chan 1 (bufOf full) false s r false)
  lowb : w0.heap.size ≤ b
  lowc : w0.heap.size ≤ c
  ne : c ≠ b
  grown : Grown w0 w

theorem cell_mu (w : World) (b o : Nat) (v : Value) (h : o ≠ 8) : (w.setCell ⟨b, 8, none⟩ v).cell? ⟨b, o, none⟩ = w.cell? ⟨b, o, none⟩ :=
  World.cell?_setCell_other _ _ _ _ (fun e => h (by injection e with _ e; exact e.symm))
theorem heap_mu (w : World) (b c : Nat) (v : Value) (h : c ≠ b) : (w.setCell ⟨b, 8, none⟩ v).heap[c]? = w.heap[c]? := Below.heap_setCell _ _ _ _ h

set_option maxRecDepth 100000 in
set_option maxHeartbeats 800000 in
theorem Nudge_any (w0 w : World) (b c : Nat) (g st : Bool) (ad : Int) (full : Bool) (h : Inv w0 w b c g st ad full) :
    Calls Yba.prog 5 #[.pointer (some ⟨b, 0, none⟩)] w fun e w' => e = .returned (.tuple #[]) ∧ Inv w0 w' b c g st ad (full || g) := by
  obtain ⟨mu, add, gat, chn, stp, fz, ⟨s, r, ch⟩, lowb, lowc, ne, gr⟩ := h
  have mu1 : (w.setCell ⟨b, 8, none⟩ (.int .i32 1)).cell? ⟨b, 8, none⟩ = some (.int .i32 1) := World.cell?_setCell_same _ _ _ mu
  have gat1 := (cell_mu w b 25 (.int .i32 1) (by decide)).trans gat
  have chn1 := (cell_mu w b 26 (.int .i32 1) (by decide)).trans chn
  have ch1 := (heap_mu w b c (.int .i32 1) ne).trans ch
  have gr1 : Grown w0 (w.setCell ⟨b, 8, none⟩ (.int .i32 1)) := gr.setCell lowb _
  -- what nudge leaves
  have N : Calls Yba.prog 9 #[.pointer (some ⟨b, 0, none⟩)] (w.setCell ⟨b, 8, none⟩ (.int .i32 1)) fun e w' => e = .returned (.tuple #[]) ∧
      (∀ o, w'.cell? ⟨b, o, none⟩ = (w.setCell ⟨b, 8, none⟩ (.int .i32 1)).cell? ⟨b, o, none⟩) ∧ w'.frozen? ⟨b, 8, none⟩ = false ∧ (∃ s r, w'.heap[c]? = some (.chan 1 (bufOf (full || g)) false s r false)) ∧ Grown w0 w' := by
    cases g with
    | false =>
      refine (nudge_off b _ gat1).mono ?_
      rintro e w' ⟨rfl, rfl⟩
      exact ⟨rfl, fun _ => rfl, by simpa using fz, ⟨s, r, by simpa using ch1⟩, gr1⟩
    | true =>
      cases full with
      | false =>
        have ch2 : (w.setCell ⟨b, 8, none⟩ (.int .i32 1)).heap[c]? = some (.chan 1 #[] false s r false) := ch1
        refine (nudge_room b c s r _ gat1 chn1 ch2).mono ?_
        rintro e w' ⟨rfl, rfl⟩
        exact ⟨rfl, fun o => cell_setChan _ c b o _ _ _ _ _ _ ne, by rw [frozen_setChan _ c _ _ _ _ _ _ _ ch2]; simpa using fz, ⟨s + 1, r, heap_setChan _ c _ _ _ _ _ _ (Array.getElem?_eq_some_iff.1 ch2).1⟩, grown_setChan gr1 c _ _ _ _ _ _ ch2 lowc⟩
      | true =>
        have ch2 : (w.setCell ⟨b, 8, none⟩ (.int .i32 1)).heap[c]? = some (.chan 1 #[.agg #[]] false s r false) := ch1
        refine (nudge_full b c s r _ gat1 chn1 ch2).mono ?_
        rintro e w' ⟨rfl, rfl⟩
        exact ⟨rfl, fun _ => rfl, by simpa using fz, ⟨s, r, ch2⟩, gr1⟩
  have HN : Hid _ := N
  clear N ch1 ch gat1 chn1 gr1
  go_enter_defers Yba.func5, Yba.ntmps5
  go_wp2_with (go_at_call 8; refine (lock_free Yba.muLib ⟨b, 8, none⟩ _ mu fz).mono ?_; rintro e w' ⟨rfl, rfl⟩)
  refine Calls.mono HN.out ?_
  rintro e w1 ⟨rfl, hcell, hfz, hch, hgr⟩
  go_wp2
  have mu2 : w1.cell? ⟨b, 8, none⟩ = some (.int .i32 1) := (hcell 8).trans mu1
  refine leaves_cons (f := 7) (args := #[.pointer (some ⟨b, 8, none⟩)]) (by simp) (by simp [go_sem]) ?_
  refine (unlock_deferred Yba.muLib ⟨b, 8, none⟩ .returning _ mu2 hfz).mono ?_
  rintro e u' w2 ⟨rfl, rfl, rfl⟩
  obtain ⟨s', r', hch'⟩ := hch
  have oc : ∀ o v, o ≠ 8 → w.cell? ⟨b, o, none⟩ = some v → (w1.setCell ⟨b, 8, none⟩ (.int .i32 0)).cell? ⟨b, o, none⟩ = some v := fun o v ho hv => by
    rw [cell_mu _ _ _ _ ho, hcell o, cell_mu _ _ _ _ ho]; exact hv
  exact ⟨_, results_none rfl _ _ _, rfl, ⟨World.cell?_setCell_same _ _ _ mu2, oc 12 _ (by decide) add, oc 25 _ (by decide) gat, oc 26 _ (by decide) chn, oc 36 _ (by decide) stp, by simpa using hfz, ⟨s', r', (heap_mu _ _ _ _ ne).trans hch'⟩, lowb, lowc, ne, hgr.setCell lowb _⟩⟩
end Go.Proofs.Ybulkbnuq
