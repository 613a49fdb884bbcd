import Derived.Test.YbulkbnxwFmtReceive
namespace Go.Proofs.YbulkbnxwFmt
open Go.RowKit

theorem Ybaf.info20 : (Ybaf.prog.info? 20).map (fun i => (i.zero, i.size, i.bytes)) = some (some .nilIface, 1, 16) := by kernel_rfl

/-- The environment before the decision. -/
structure EnvAt (w : World) (E n : Nat) : Prop where
  el : E < w.heap.size
  e1 : w.cell? ⟨E, 1, none⟩ = some (.int .i64 n)
  e2 : w.cell? ⟨E, 2, none⟩ = some (.slice none 0 0)
  e3 : w.cell? ⟨E, 3, none⟩ = some (.int .i64 0)
  z2 : w.frozen? ⟨E, 2, none⟩ = false
theorem EnvAt.kept {S : List Nat} {w w' : World} {E n : Nat} (h : EnvAt w E n) (k : Kept S w w') (hs : E ∉ S) : EnvAt w' E n :=
  ⟨Nat.lt_of_lt_of_le h.el k.size, (k.cell E _ h.el hs).trans h.e1, (k.cell E _ h.el hs).trans h.e2, (k.cell E _ h.el hs).trans h.e3, (k.frozen E _ h.el hs).trans h.z2⟩
theorem EnvAt.held {Z : Nat} {S : List Nat} {w w' : World} {E n : Nat} (h : EnvAt w E n) (k : Held Z S w w') (hz : E < Z) (hs : E ∉ S) : EnvAt w' E n :=
  ⟨Nat.lt_of_lt_of_le h.el k.size, (k.cell E _ hz hs).trans h.e1, (k.cell E _ hz hs).trans h.e2, (k.cell E _ hz hs).trans h.e3, (k.frozen E _ hz hs).trans h.z2⟩
/-- And behind it. -/
structure DoneAt (w : World) (E : Nat) (x : Int) : Prop where
  el : E < w.heap.size
  e3 : w.cell? ⟨E, 3, none⟩ = some (.int .i64 0)
  e2 : ∃ G cap, w.cell? ⟨E, 2, none⟩ = some (.slice (some ⟨G, 0, none⟩) 1 cap) ∧ w.cell? ⟨G, 0, none⟩ = some (.iface 2 (.int .i64 x))

set_option maxRecDepth 100000 in
set_option maxHeartbeats 1600000 in
theorem decide_any (E n : Nat) (x : Int) (w : World) (he : Hid (EnvAt w E n)) :
    Calls Ybaf.prog 104 #[.pointer (some ⟨E, 0, none⟩), .iface 2 (.int .i64 x)] w fun e w' => e = .returned (.tuple #[]) ∧ Hid (DoneAt w' E x) ∧ Hid (Kept [E] w w') := by
  obtain ⟨i0, hi, hz0, hz1, hz2⟩ := info_parts Ybaf.info20
  have e2 := he.out.e2
  have z2 := he.out.z2
  have el := he.out.el
  go_enter Ybaf.func104, Ybaf.ntmps104
  go_wp2_with (at_builtin; refine wpList_append_own _ rfl (.tmp 8) (.tmp 10) 42 rfl w.heap.size 20 i0 .nilIface 1 16 Ybaf.underlying42 hi hz0 hz1 hz2 rfl (by decide) _ _ _ rfl ((World.ownsRow_nil w w.heap.size 20 1).alloc _) ⟨w.heap.size, 0, none⟩ 1 1 [.iface 2 (.int .i64 x)] rfl rfl (by intro t u ht; match t, ht with | 0, ht => simp at ht; subst ht; simp [Addr.add]) (by intro u hu; simp at hu; subst hu; rfl) (by unfold maxLen; omega) (by omega) (by simp) ?_)
  intro v1 w1 hown1 hgrow1 hne1
  have hk1 : Kept [] w w1 := ((Kept.refl _ _).alloc _).grown hgrow1 (fun k hk => by cases hk)
  have he1 := he.out.kept hk1 (by simp)
  obtain ⟨G, cap, rfl, zG, hG, hc⟩ : ∃ G cap, v1 = .slice (some ⟨G, 0, none⟩) 1 cap ∧ w.heap.size ≤ G ∧ G < w1.heap.size ∧ w1.cell? ⟨G, 0, none⟩ = some (.iface 2 (.int .i64 x)) := by
    rcases hown1.2 with ⟨e, h⟩ | ⟨g, c, cur, rfl, hb, _⟩
    · exact absurd h (by omega)
    · exact ⟨g, c, rfl, hb, (hown1.lt g rfl).2, by simpa using hown1.cellAt 0 (by omega)⟩
  have hk2 : Kept [E] w1 (w1.setCell ⟨E, 2, none⟩ (.slice (some ⟨G, 0, none⟩) 1 cap)) := (Kept.refl _ _).setCell (p := ⟨E, 2, none⟩) (.inl (by simp)) _
  have hd : Hid (DoneAt (w1.setCell ⟨E, 2, none⟩ (.slice (some ⟨G, 0, none⟩) 1 cap)) E x) := by
    obtain ⟨a1, a2, a3, a4, a5⟩ := he1
    refine ⟨by simpa using a1, ?_, G, cap, ?_, (hk2.cell G 0 hG (by simp; omega)).trans hc⟩ <;> go_simp
  have hk3 : Hid (Kept [E] w (w1.setCell ⟨E, 2, none⟩ (.slice (some ⟨G, 0, none⟩) 1 cap))) := (hk1.mono (by simp)).trans hk2
  have e21 := he1.e2
  have z21 := he1.z2
  clear hown1 hgrow1 hne1 hk1 he1 hk2 e2 z2
  go_wp2
  go_end0
  exact ⟨rfl, hd, hk3⟩

set_option maxRecDepth 100000 in
theorem n_any (E n : Nat) (w : World) (he : Hid (EnvAt w E n)) :
    Calls Ybaf.prog 106 #[.pointer (some ⟨E, 0, none⟩)] w fun e w' => e = .returned (.int .i64 n) ∧ w' = w := by
  have e1 := he.out.e1
  go_enter Ybaf.func106, Ybaf.ntmps106
  go_wp2
  go_ret
  exact ⟨rfl, rfl⟩

theorem meth_decide (p : Value) (w : World) : (method 315 39 p "Decide").run Ybaf.prog w = .ok (104, p) w := by kernel_rfl
theorem meth_n (p : Value) (w : World) : (method 315 39 p "N").run Ybaf.prog w = .ok (106, p) w := by kernel_rfl

set_option maxRecDepth 100000 in
set_option maxHeartbeats 3200000 in
theorem Receive_any (P E T L D n Z M q c : Nat) (d : Int) (ms : List Msg) (f : Nat → Option Int) (w : World) (hp : Hid (∃ lab, ProcAt w P E T d lab ∧ LabAt w Z lab)) (ht : Hid (TreeAt w T L D n f)) (he : Hid (EnvAt w E n)) (hms : Hid (MsgsAt w M ms)) (hq : Hid (ms.length = q)) (hids : Hid (∀ m ∈ ms, 1 ≤ m.id ∧ m.id ≤ n))
    (hZ : Z ≤ w.heap.size) (zP : P < Z) (zT : T < Z) (zL : L < Z) (zD : D < Z) (zM : M < Z) (zE : E < Z) (nPT : Hid (P ≠ T ∧ P ≠ L ∧ P ≠ D)) (nM : Hid (M ≠ P ∧ M ≠ D)) (nE : Hid (E ≠ P ∧ E ≠ D)) (hn : n ≤ 1000) (hqn : q ≤ 1000) :
    Calls Ybaf.prog 12 #[.pointer (some ⟨P, 0, none⟩), .int .i64 1, .slice (some ⟨M, 0, none⟩) q c] w fun e w' => e = .returned (.tuple #[]) ∧ Hid (DoneAt w' E (maj (vals f d ms n) d)) ∧ Hid (Held Z [P, D, E] w w') := by
  go_enter Ybaf.func12, Ybaf.ntmps12
  go_wp2_with fail
  refine (receive_any P E T L D n Z M q c d ms f w hp ht hms hq hids hZ zP zT zL zD zM nPT nM hn hqn).mono ?_
  rintro e w1 ⟨V, rfl, zV, hV, hnum, hp1, hh1⟩
  have he1 : Hid _ := he.out.held hh1.out zE (by have := nE.out; simp; omega)
  clear hp ht hms he
  obtain ⟨lab, hpl, hll⟩ := hp1.out
  have p0 := hpl.p0
  have p3 := hpl.p3
  have pl := hpl.pl
  clear hpl hll
  have md := meth_decide
  have hlen : Hid ((vals f d ms n).length = n) := by show (vals f d ms n).length = n; simp [vals]
  have ndr : ∀ k, Hid (Nums (w1.drewN k) V (vals f d ms n)) := fun k => hnum
  have edr : ∀ k, Hid (EnvAt (w1.drewN k) E n) := fun k => he1.out.kept ((Kept.refl [] w1).drewN k) (by simp)
  go_wp2_with fail
  go_region_held3 (fun W => W.cell? ⟨P, 0, none⟩ = some (.iface 39 (.pointer (some ⟨E, 0, none⟩))) ∧ W.cell? ⟨P, 3, none⟩ = some (.int .i64 d)) (first | (simp [go_sem, p0, p3]; done) | (have hx := h2.out; have hz := nE.out; refine ⟨?_, ?_⟩ <;> (rw [hx.cell _ _ (by simp; omega) (by simp; omega)]; simp [go_sem, p0, p3])))
    (first
    | (go_at_call 20; refine (majority_any V (vals f d ms n) n n d _ (ndr 1) hlen (by omega)).mono ?_; rintro e w' ⟨rfl, rfl⟩)
    | (go_at_call 104; refine (decide_any E n _ _ (edr 1)).mono ?_; rintro e w2 ⟨rfl, hd, h2⟩))
  have k2 : Kept [E] w1 w2 := ((Kept.refl _ w1).drewN 1).trans h2.out
  go_end0
  refine ⟨rfl, hd, ?_⟩
  exact (hh1.out.mono (Nat.le_refl _) (by simp)).trans (k2.held Z (by have := hh1.out.size; omega) (by simp))
end Go.Proofs.YbulkbnxwFmt
