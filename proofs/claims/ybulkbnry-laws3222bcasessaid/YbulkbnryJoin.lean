import Derived.Test.YbulkbnryEq
namespace Go.Proofs.Ybulkbnry
open Go.RowKit
set_option linter.unusedSimpArgs false

set_option maxHeartbeats 1000000 in
theorem join1 (a b : Nat) (q1 : Option Addr) (w : World) :
    Calls Yba.prog 6 #[.pointer (some ⟨a, 0, none⟩), .pointer (some ⟨b, 0, none⟩), .bool false, .agg #[.pointer none, .pointer q1]] w fun e w' =>
      e = .returned (.pointer q1) ∧ Far w w' := by
  go_enter Yba.func6, Yba.ntmps6
  go_wp2
  go_ret
  exact ⟨rfl, by repeat (first | exact Far.refl _ | apply Far.alloc | apply Far.drew | apply Far.drewN)⟩

set_option maxHeartbeats 1000000 in
theorem join2 (a b : Nat) (x : Addr) (w : World) :
    Calls Yba.prog 6 #[.pointer (some ⟨a, 0, none⟩), .pointer (some ⟨b, 0, none⟩), .bool false, .agg #[.pointer (some x), .pointer none]] w fun e w' =>
      e = .returned (.pointer (some x)) ∧ Far w w' := by
  go_enter Yba.func6, Yba.ntmps6
  go_wp2
  go_ret
  exact ⟨rfl, by repeat (first | exact Far.refl _ | apply Far.alloc | apply Far.drew | apply Far.drewN)⟩

/-- Both arms below, or a network: the first two cases are passed by. -/
def Both (net : Bool) (q0 q1 : Option Addr) : Prop := net = true ∨ (net = false ∧ q0.isNone = false ∧ q1.isNone = false)

theorem law24 {w : World} {q0 q1 p0 p1 : Option Addr} (h0 : GP w q0) (h1 : GP w q1) (k0 : GP w p0) (k1 : GP w p1) (e : Bool) (he : (decide (q0 = p0) && decide (q1 = p1)) = e) (c : Array Value) (t : TypeId) :
    ∀ k, (Op.equalIn 10000 24 (.agg #[.pointer q0, .pointer q1]) (.agg #[.pointer p0, .pointer p1])).run Yba.prog ((w.alloc (.cells c t)).drewN k) = .ok e ((w.alloc (.cells c t)).drewN k) := fun k => by
  have f : Far w ((w.alloc (.cells c t)).drewN k) := ((Far.refl w).alloc c t).drewN k
  rw [eqIn_arr _ 9998 _ _ _ _ (h0.far f) (h1.far f) (k0.far f) (k1.far f), he]

set_option maxHeartbeats 1000000 in
theorem join3 (a b : Nat) (hi lo n : Int) (net : Bool) (q0 q1 : Option Addr) (s : Int) (w : World) (ha : NodeAt w a hi lo n net q0 q1 s) (g0 : GP w q0) (g1 : GP w q1) (hs : Both net q0 q1) :
    Calls Yba.prog 6 #[.pointer (some ⟨a, 0, none⟩), .pointer (some ⟨b, 0, none⟩), .bool net, .agg #[.pointer q0, .pointer q1]] w fun e w' =>
      e = .returned (.pointer (some ⟨a, 0, none⟩)) ∧ Far w w' := by
  have la := ha.lt
  obtain ⟨c0, c1, c2, c3, c4, c5, c6, _⟩ := ha
  have le := law24 g0 g1 g0 g1 true (by simp) #[.pointer q0, .pointer q1] 24
  clear g0 g1
  rcases hs with rfl | ⟨rfl, e0, e1⟩
  all_goals
    go_enter Yba.func6, Yba.ntmps6
    go_wp2
    go_quiet (fail)
    go_wp2
    go_ret
    exact ⟨rfl, by repeat (first | exact Far.refl _ | apply Far.alloc | apply Far.drew | apply Far.drewN)⟩

/-- The test of the third case fails: by the flag, or by the nodes below. -/
def Fails (net netA : Bool) (q0 q1 p0 p1 : Option Addr) : Prop := (net == netA) = false ∨ ((net == netA) = true ∧ (decide (q0 = p0) && decide (q1 = p1)) = false)

set_option maxHeartbeats 1000000 in
theorem join4 (a b : Nat) (hi lo n hi' lo' n' : Int) (net netA : Bool) (q0 q1 p0 p1 : Option Addr) (s s' : Int) (w : World) (ha : NodeAt w a hi lo n netA p0 p1 s) (hb : NodeAt w b hi' lo' n' net q0 q1 s')
    (g0 : GP w q0) (g1 : GP w q1) (k0 : GP w p0) (k1 : GP w p1) (hs : Both net q0 q1) (hA : Fails net netA q0 q1 p0 p1) :
    Calls Yba.prog 6 #[.pointer (some ⟨a, 0, none⟩), .pointer (some ⟨b, 0, none⟩), .bool net, .agg #[.pointer q0, .pointer q1]] w fun e w' =>
      e = .returned (.pointer (some ⟨b, 0, none⟩)) ∧ Far w w' := by
  have la := ha.lt
  have lb := hb.lt
  obtain ⟨c0, c1, c2, c3, c4, c5, c6, _⟩ := ha
  obtain ⟨b0, b1, b2, b3, b4, b5, b6, _⟩ := hb
  have le := law24 g0 g1 g0 g1 true (by simp) #[.pointer q0, .pointer q1] 24
  rcases hA with hA | ⟨hA, h⟩
  · clear g0 g1 k0 k1
    rcases hs with rfl | ⟨rfl, e0, e1⟩
    all_goals
      cases netA <;> simp at hA
      go_enter Yba.func6, Yba.ntmps6
      go_wp2
      go_quiet (fail)
      go_wp2
      go_quiet (fail)
      go_wp2
      go_ret
      exact ⟨rfl, by repeat (first | exact Far.refl _ | apply Far.alloc | apply Far.drew | apply Far.drewN)⟩
  · have lf := law24 g0 g1 k0 k1 false h #[.pointer q0, .pointer q1] 24
    clear g0 g1 k0 k1 h
    rcases hs with rfl | ⟨rfl, e0, e1⟩
    all_goals
      cases netA <;> simp at hA
      go_enter Yba.func6, Yba.ntmps6
      go_wp2
      go_quiet (fail)
      go_wp2
      go_quiet (fail)
      go_wp2
      go_ret
      exact ⟨rfl, by repeat (first | exact Far.refl _ | apply Far.alloc | apply Far.drew | apply Far.drewN)⟩

set_option maxHeartbeats 2000000 in
theorem join5 (a b : Nat) (hi lo n hi' lo' n' : Int) (net netA netB : Bool) (q0 q1 p0 p1 r0 r1 : Option Addr) (s s' t0 t1 : Int) (w : World) (ha : NodeAt w a hi lo n netA p0 p1 s) (hb : NodeAt w b hi' lo' n' netB r0 r1 s')
    (h0 : 0 ≤ n) (h1 : n ≤ 128) (st0 : SumAt w q0 t0) (st1 : SumAt w q1 t1)
    (g0 : GP w q0) (g1 : GP w q1) (k0 : GP w p0) (k1 : GP w p1) (m0 : GP w r0) (m1 : GP w r1) (hs : Both net q0 q1) (hA : Fails net netA q0 q1 p0 p1) (hB : Fails net netB q0 q1 r0 r1) :
    Calls Yba.prog 6 #[.pointer (some ⟨a, 0, none⟩), .pointer (some ⟨b, 0, none⟩), .bool net, .agg #[.pointer q0, .pointer q1]] w fun e w' =>
      ∃ r, e = .returned (.pointer (some ⟨r, 0, none⟩)) ∧ w.heap.size ≤ r ∧ Far w w' ∧ NodeAt w' r hi lo n net q0 q1 (sumF hi lo n net t0 t1) := by
  have la := ha.lt
  have lb := hb.lt
  have f0 : ∀ k, Far w ((w.alloc (.cells #[.pointer q0, .pointer q1] 24)).drewN k) := fun k => ((Far.refl w).alloc _ _).drewN k
  have S0 : ∀ k, SumAt ((w.alloc (.cells #[.pointer q0, .pointer q1] 24)).drewN k) q0 t0 := fun k => st0.far (f0 k)
  have S1 : ∀ k, SumAt ((w.alloc (.cells #[.pointer q0, .pointer q1] 24)).drewN k) q1 t1 := fun k => st1.far (f0 k)
  obtain ⟨c0, c1, c2, c3, c4, c5, c6, _⟩ := ha
  obtain ⟨b0, b1, b2, b3, b4, b5, b6, _⟩ := hb
  have eA : ∃ x y : Bool, (net == netA) = x ∧ (x = true → y = false) ∧ ∀ k, (Op.equalIn 10000 24 (.agg #[.pointer q0, .pointer q1]) (.agg #[.pointer p0, .pointer p1])).run Yba.prog ((w.alloc (.cells #[.pointer q0, .pointer q1] 24)).drewN k) = .ok y ((w.alloc (.cells #[.pointer q0, .pointer q1] 24)).drewN k) := by
    rcases hA with h | ⟨h, h'⟩
    · exact ⟨_, _, h, by simp, law24 g0 g1 k0 k1 _ rfl _ _⟩
    · exact ⟨_, _, h, by simp, law24 g0 g1 k0 k1 _ h' _ _⟩
  have eB : ∃ x y : Bool, (net == netB) = x ∧ (x = true → y = false) ∧ ∀ k, (Op.equalIn 10000 24 (.agg #[.pointer q0, .pointer q1]) (.agg #[.pointer r0, .pointer r1])).run Yba.prog ((w.alloc (.cells #[.pointer q0, .pointer q1] 24)).drewN k) = .ok y ((w.alloc (.cells #[.pointer q0, .pointer q1] 24)).drewN k) := by
    rcases hB with h | ⟨h, h'⟩
    · exact ⟨_, _, h, by simp, law24 g0 g1 m0 m1 _ rfl _ _⟩
    · exact ⟨_, _, h, by simp, law24 g0 g1 m0 m1 _ h' _ _⟩
  clear g0 g1 k0 k1 m0 m1 hA hB st0 st1
  obtain ⟨x, y, hx, hxy, lA⟩ := eA
  obtain ⟨u, v, hu, huv, lB⟩ := eB
  have F : Hid (∀ k, Far w ((w.alloc (.cells #[.pointer q0, .pointer q1] 24)).drewN k)) := f0
  clear f0
  have D : Hid (∀ k, ((w.alloc (.cells #[.pointer q0, .pointer q1] 24)).drewN k).cell? ⟨a, 0, none⟩ = some (.int .u64 hi) ∧ ((w.alloc (.cells #[.pointer q0, .pointer q1] 24)).drewN k).cell? ⟨a, 1, none⟩ = some (.int .u64 lo) ∧ ((w.alloc (.cells #[.pointer q0, .pointer q1] 24)).drewN k).cell? ⟨a, 2, none⟩ = some (.int .u8 n) ∧
      ((w.alloc (.cells #[.pointer q0, .pointer q1] 24)).drewN k).cell? ⟨w.heap.size, 0, none⟩ = some (.pointer q0) ∧ ((w.alloc (.cells #[.pointer q0, .pointer q1] 24)).drewN k).cell? ⟨w.heap.size, 1, none⟩ = some (.pointer q1) ∧ w.heap.size < ((w.alloc (.cells #[.pointer q0, .pointer q1] 24)).drewN k).heap.size) := fun k =>
    ⟨((F.out k).cell a 0 la).trans c0, ((F.out k).cell a 1 la).trans c1, ((F.out k).cell a 2 la).trans c2, by rw [World.cell?_drewN, World.cell?_alloc_new]; rfl, by rw [World.cell?_drewN, World.cell?_alloc_new]; rfl, by simp⟩
  rcases hs with rfl | ⟨rfl, e0, e1⟩
  all_goals (cases netA <;> cases netB <;> simp at hx hu <;> subst hx hu <;> simp at hxy huv <;> try subst hxy)
  all_goals try subst huv
  all_goals
    go_enter Yba.func6, Yba.ntmps6
    go_wp2
    go_quiet (fail)
    go_wp2
    go_quiet (fail)
    go_wp2
    rw [World.drewN_drewN]
    rename_i nq1 K1 hK1
    generalize nq1 + nq = k
    have T0 := fun j => S0 (k + j)
    have T1 := fun j => S1 (k + j)
    have f1 := F.out k
    obtain ⟨d0, d1, d2, d3, d4, d5⟩ := D.out k
    clear S0 S1 F D lA lB c0 c1 c2 c3 c4 c5 c6 b0 b1 b2 b3 b4 b5 b6
    simp only [← World.drewN_drewN] at T0 T1
    generalize World.drewN (World.alloc w _) k = X at *
    go_region_held3 (fun w' => w'.cell? ⟨a, 0, none⟩ = some (.int .u64 hi) ∧ w'.cell? ⟨a, 1, none⟩ = some (.int .u64 lo) ∧ w'.cell? ⟨a, 2, none⟩ = some (.int .u8 n) ∧ w'.cell? ⟨w.heap.size, 0, none⟩ = some (.pointer q0) ∧ w'.cell? ⟨w.heap.size, 1, none⟩ = some (.pointer q1))
      (first | (simp [go_sem, d0, d1, d2, d3, d4]; done) | (refine ⟨?_, ?_, ?_, ?_, ?_⟩ <;> (rw [f5.cell _ _ (by simp; omega)]; simp [go_sem, d0, d1, d2, d3, d4])))
      (first | (go_at_call 8; refine (newNode_any _ _ _ _ _ _ _ _ _ h0 h1 (T0 1) (T1 1)).mono ?_; rintro e w5 ⟨rfl, f5, n5⟩))
    go_wp2
    go_ret
    exact ⟨_, rfl, by have := f1.size; simp; omega, (f1.drewN 1).trans f5, n5⟩
end Go.Proofs.Ybulkbnry
