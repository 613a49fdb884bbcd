import Derived.Test.YbulkbnrySwap
import Derived.BigRegion
import Derived.Deep.DeepCutAuto
namespace Go.Proofs.Ybulkbnry
open Go.RowKit
set_option linter.unusedSimpArgs false

theorem node_new (w : World) (b : Nat) (hi lo n : Int) (net : Bool) (p0 p1 : Option Addr) (s : Int) (h : b = w.heap.size) :
    NodeAt (w.alloc (.cells #[.int .u64 hi, .int .u64 lo, .int .u8 n, .bool net, .pointer p0, .pointer p1, .int .u64 s] 30)) b hi lo n net p0 p1 s := by
  subst h
  refine ⟨?_, ?_, ?_, ?_, ?_, ?_, ?_, ⟨_, _, (MapKept.heap_alloc w _).1⟩⟩ <;> rw [World.cell?_alloc_new] <;> rfl
theorem NodeAt.on_alloc {w : World} {b : Nat} {hi lo n : Int} {net : Bool} {p0 p1 : Option Addr} {s : Int} {c : Array Value} {t : TypeId} (h : NodeAt w b hi lo n net p0 p1 s) : NodeAt (w.alloc (.cells c t)) b hi lo n net p0 p1 s := h.far ((Far.refl _).alloc _ _)
theorem NodeAt.on_drew {w : World} {b : Nat} {hi lo n : Int} {net : Bool} {p0 p1 : Option Addr} {s : Int} (h : NodeAt w b hi lo n net p0 p1 s) : NodeAt w.drew b hi lo n net p0 p1 s := h.far (Far.refl _).drew

/-- The nodes below against themselves, as a field of a node. -/
theorem law24in {w : World} {p0 p1 : Option Addr} (h0 : GP w p0) (h1 : GP w p1) :
    ∀ k, (Op.equalIn 9999 24 (.agg #[.pointer p0, .pointer p1]) (.agg #[.pointer p0, .pointer p1])).run Yba.prog (w.drewN k) = .ok true (w.drewN k) := fun k => by
  have f : Far w (w.drewN k) := (Far.refl w).drewN k
  rw [eqIn_arr (w.drewN k) 9997 p0 p1 p0 p1 (h0.far f) (h1.far f) (h0.far f) (h1.far f)]
  simp

theorem law24W {w : World} {q0 q1 p0 p1 : Option Addr} (h0 : GP w q0) (h1 : GP w q1) (k0 : GP w p0) (k1 : GP w p1) (e : Bool) (he : (decide (q0 = p0) && decide (q1 = p1)) = e) :
    (Op.equalIn 10000 24 (.agg #[.pointer q0, .pointer q1]) (.agg #[.pointer p0, .pointer p1])).run Yba.prog w = .ok e w := by
  rw [eqIn_arr _ 9998 _ _ _ _ h0 h1 k0 k1, he]

/-- What 'joined' hands back, case by case. -/
def Came (W : World) (r : Option Addr) (a b z : Nat) (hi lo m : Int) (net netA netB : Bool) (Q0 Q1 P0 P1 R0 R1 : Option Addr) (t0 t1 : Int) : Prop :=
  (net = false ∧ Q0 = none ∧ r = Q1) ∨ (net = false ∧ Q0.isNone = false ∧ Q1 = none ∧ r = Q0) ∨ (Both net Q0 Q1 ∧ net = netA ∧ Q0 = P0 ∧ Q1 = P1 ∧ r = some ⟨a, 0, none⟩) ∨
  (Both net Q0 Q1 ∧ Fails net netA Q0 Q1 P0 P1 ∧ net = netB ∧ Q0 = R0 ∧ Q1 = R1 ∧ r = some ⟨b, 0, none⟩) ∨
  (Both net Q0 Q1 ∧ Fails net netA Q0 Q1 P0 P1 ∧ Fails net netB Q0 Q1 R0 R1 ∧ ∃ x, r = some ⟨x, 0, none⟩ ∧ z ≤ x ∧ NodeAt W x hi lo m net Q0 Q1 (sumF hi lo m net t0 t1))

theorem fails_or (net x : Bool) (q0 q1 u v : Option Addr) : (net = x ∧ q0 = u ∧ q1 = v) ∨ Fails net x q0 q1 u v := by
  unfold Fails
  by_cases e1 : net = x
  · by_cases e2 : q0 = u
    · by_cases e3 : q1 = v
      · exact .inl ⟨e1, e2, e3⟩
      · exact .inr (.inr ⟨by simp [e1], by simp [e3]⟩)
    · exact .inr (.inr ⟨by simp [e1], by simp [e2]⟩)
  · exact .inr (.inl (by simp [e1]))

theorem jC (a b : Nat) (hi lo n : Int) (net netA netB : Bool) (q0 q1 p0 p1 r0 r1 : Option Addr) (s s' t0 t1 : Int) (w : World) (ha : NodeAt w a hi lo n netA p0 p1 s) (hb : NodeAt w b hi lo n netB r0 r1 s')
    (h0 : 0 ≤ n) (h1 : n ≤ 128) (st0 : SumAt w q0 t0) (st1 : SumAt w q1 t1) (g0 : GP w q0) (g1 : GP w q1) (k0 : GP w p0) (k1 : GP w p1) (m0 : GP w r0) (m1 : GP w r1) :
    Calls Yba.prog 6 #[.pointer (some ⟨a, 0, none⟩), .pointer (some ⟨b, 0, none⟩), .bool net, .agg #[.pointer q0, .pointer q1]] w fun e w' =>
      ∃ r, e = .returned (.pointer r) ∧ Far w w' ∧ Came w' r a b w.heap.size hi lo n net netA netB q0 q1 p0 p1 r0 r1 t0 t1 := by
  have main : Both net q0 q1 → Calls Yba.prog 6 #[.pointer (some ⟨a, 0, none⟩), .pointer (some ⟨b, 0, none⟩), .bool net, .agg #[.pointer q0, .pointer q1]] w fun e w' =>
      ∃ r, e = .returned (.pointer r) ∧ Far w w' ∧ Came w' r a b w.heap.size hi lo n net netA netB q0 q1 p0 p1 r0 r1 t0 t1 := fun hs => by
    rcases fails_or net netA q0 q1 p0 p1 with ⟨rfl, rfl, rfl⟩ | hA
    · refine (join3 a b hi lo n net q0 q1 _ w ha g0 g1 hs).mono ?_
      rintro e w' ⟨rfl, hf⟩
      exact ⟨_, rfl, hf, .inr (.inr (.inl ⟨hs, rfl, rfl, rfl, rfl⟩))⟩
    rcases fails_or net netB q0 q1 r0 r1 with ⟨rfl, rfl, rfl⟩ | hB
    · refine (join4 a b hi lo n hi lo n net netA q0 q1 p0 p1 s _ w ha hb g0 g1 k0 k1 hs hA).mono ?_
      rintro e w' ⟨rfl, hf⟩
      exact ⟨_, rfl, hf, .inr (.inr (.inr (.inl ⟨hs, hA, rfl, rfl, rfl, rfl⟩)))⟩
    · refine (join5 a b hi lo n hi lo n net netA netB q0 q1 p0 p1 r0 r1 s s' t0 t1 w ha hb h0 h1 st0 st1 g0 g1 k0 k1 m0 m1 hs hA hB).mono ?_
      rintro e w' ⟨r, rfl, hz, hf, hn⟩
      exact ⟨_, rfl, hf, .inr (.inr (.inr (.inr ⟨hs, hA, hB, r, rfl, hz, hn⟩)))⟩
  cases net with
  | true => exact main (.inl rfl)
  | false =>
    cases q0 with
    | none =>
      refine (join1 a b _ w).mono ?_
      rintro e w' ⟨rfl, f⟩
      exact ⟨_, rfl, f, .inl ⟨rfl, rfl, rfl⟩⟩
    | some x =>
      cases q1 with
      | none =>
        refine (join2 a b _ w).mono ?_
        rintro e w' ⟨rfl, f⟩
        exact ⟨_, rfl, f, .inr (.inl ⟨rfl, rfl, rfl, rfl⟩)⟩
      | some y => exact main (.inr ⟨rfl, rfl, rfl⟩)

/-- The 28 cells of the four nodes. -/
abbrev N4 (w : World) (a b l0 l1 : Nat) (hi lo n : Int) (netA netB : Bool) (p0 p1 r0 r1 : Option Addr) (sa sb o0 o1 : Int) : Prop :=
  w.cell? ⟨a, 0, none⟩ = some (.int .u64 hi) ∧ w.cell? ⟨a, 1, none⟩ = some (.int .u64 lo) ∧ w.cell? ⟨a, 2, none⟩ = some (.int .u8 n) ∧ w.cell? ⟨a, 3, none⟩ = some (.bool netA) ∧ w.cell? ⟨a, 4, none⟩ = some (.pointer p0) ∧ w.cell? ⟨a, 5, none⟩ = some (.pointer p1) ∧ w.cell? ⟨a, 6, none⟩ = some (.int .u64 sa) ∧
  w.cell? ⟨b, 0, none⟩ = some (.int .u64 hi) ∧ w.cell? ⟨b, 1, none⟩ = some (.int .u64 lo) ∧ w.cell? ⟨b, 2, none⟩ = some (.int .u8 n) ∧ w.cell? ⟨b, 3, none⟩ = some (.bool netB) ∧ w.cell? ⟨b, 4, none⟩ = some (.pointer r0) ∧ w.cell? ⟨b, 5, none⟩ = some (.pointer r1) ∧ w.cell? ⟨b, 6, none⟩ = some (.int .u64 sb) ∧
  w.cell? ⟨l0, 0, none⟩ = some (.int .u64 1) ∧ w.cell? ⟨l0, 1, none⟩ = some (.int .u64 0) ∧ w.cell? ⟨l0, 2, none⟩ = some (.int .u8 64) ∧ w.cell? ⟨l0, 3, none⟩ = some (.bool true) ∧ w.cell? ⟨l0, 4, none⟩ = some (.pointer none) ∧ w.cell? ⟨l0, 5, none⟩ = some (.pointer none) ∧ w.cell? ⟨l0, 6, none⟩ = some (.int .u64 o0) ∧
  w.cell? ⟨l1, 0, none⟩ = some (.int .u64 2) ∧ w.cell? ⟨l1, 1, none⟩ = some (.int .u64 0) ∧ w.cell? ⟨l1, 2, none⟩ = some (.int .u8 64) ∧ w.cell? ⟨l1, 3, none⟩ = some (.bool true) ∧ w.cell? ⟨l1, 4, none⟩ = some (.pointer none) ∧ w.cell? ⟨l1, 5, none⟩ = some (.pointer none) ∧ w.cell? ⟨l1, 6, none⟩ = some (.int .u64 o1)
theorem N4.mk {w : World} {a b l0 l1 : Nat} {hi lo n : Int} {netA netB : Bool} {p0 p1 r0 r1 : Option Addr} {sa sb o0 o1 : Int} (h : NodeAt w a hi lo n netA p0 p1 sa) (k : NodeAt w b hi lo n netB r0 r1 sb)
    (x : NodeAt w l0 1 0 64 true none none o0) (y : NodeAt w l1 2 0 64 true none none o1) : N4 w a b l0 l1 hi lo n netA netB p0 p1 r0 r1 sa sb o0 o1 :=
  ⟨h.c0, h.c1, h.c2, h.c3, h.c4, h.c5, h.c6, k.c0, k.c1, k.c2, k.c3, k.c4, k.c5, k.c6, x.c0, x.c1, x.c2, x.c3, x.c4, x.c5, x.c6, y.c0, y.c1, y.c2, y.c3, y.c4, y.c5, y.c6⟩

set_option maxRecDepth 100000 in
set_option maxHeartbeats 4000000 in
theorem cases_walk (net netA netB : Bool) (a0 a1 b0 b1 s0 s1 hi lo n : Int) (w : World) (ha0 : 0 ≤ a0 ∧ a0 ≤ 255) (ha1 : 0 ≤ a1 ∧ a1 ≤ 255) (hb0 : 0 ≤ b0 ∧ b0 ≤ 255) (hb1 : 0 ≤ b1 ∧ b1 ≤ 255)
    (hs0 : 0 ≤ s0 ∧ s0 ≤ 255) (hs1 : 0 ≤ s1 ∧ s1 ≤ 255) (hn : 0 ≤ n ∧ n ≤ 255) :
    Calls Yba.prog 3 #[.bool net, .bool netA, .bool netB, .int .u8 a0, .int .u8 a1, .int .u8 b0, .int .u8 b1, .int .u8 s0, .int .u8 s1, .int .u64 hi, .int .u64 lo, .int .u8 n] w fun e w' => e = .returned (.bool true) ∧ Grown w w' := by
  go_enter Yba.func3, Yba.ntmps3
  go_wp2_with fail
  refine (build_any netA netB a0 a1 b0 b1 s0 s1 hi lo n _ ha0 ha1 hb0 hb1 hs0 hs1 hn).mono ?_
  rintro e w1 ⟨l0, l1, a, b, rfl, f1, z0, z1, z2, z3, n0, n1, na, nb⟩
  go_wp2_with fail
  have L := Leaf.pick n0 n1
  have M := SumAt.pick n0 n1
  have P := pick_sum z1
  have st0 := M s0
  have st1 := M s1
  have A : ∀ c0 c1 nt, net = nt → pickF s0 (some ⟨l0, 0, none⟩) (some ⟨l1, 0, none⟩) = pickF c0 (some ⟨l0, 0, none⟩) (some ⟨l1, 0, none⟩) → pickF s1 (some ⟨l0, 0, none⟩) (some ⟨l1, 0, none⟩) = pickF c1 (some ⟨l0, 0, none⟩) (some ⟨l1, 0, none⟩) →
      sumF hi lo (n % 129) nt (sumP c0) (sumP c1) = sumF hi lo (n % 129) net (sumP s0) (sumP s1) := fun c0 c1 nt h e0 e1 => by rw [h, P _ _ e0, P _ _ e1]
  have ea := A a0 a1 netA
  have eb := A b0 b1 netB
  have q0 := L s0
  have q1 := L s1
  have p0 := L a0
  have p1 := L a1
  have r0 := L b0
  have r1 := L b1
  clear A P M L
  have hn0 : 0 ≤ n % 129 := by omega
  have hn1 : n % 129 ≤ 128 := by omega
  generalize n % 129 = m at *
  generalize sumF hi lo m netA (sumP a0) (sumP a1) = sa at *
  generalize sumF hi lo m netB (sumP b0) (sumP b1) = sb at *
  generalize sumP s0 = t0 at *
  generalize sumP s1 = t1 at *
  generalize S0 = o0 at *
  generalize S1 = o1 at *
  generalize pickF s0 (some ⟨l0, 0, none⟩) (some ⟨l1, 0, none⟩) = Q0 at *
  generalize pickF s1 (some ⟨l0, 0, none⟩) (some ⟨l1, 0, none⟩) = Q1 at *
  generalize pickF a0 (some ⟨l0, 0, none⟩) (some ⟨l1, 0, none⟩) = P0 at *
  generalize pickF a1 (some ⟨l0, 0, none⟩) (some ⟨l1, 0, none⟩) = P1 at *
  generalize pickF b0 (some ⟨l0, 0, none⟩) (some ⟨l1, 0, none⟩) = R0 at *
  generalize pickF b1 (some ⟨l0, 0, none⟩) (some ⟨l1, 0, none⟩) = R1 at *
  have f2 : Far w1 (w1.alloc (.cells #[.pointer Q0, .pointer Q1] 24)) := (Far.refl _).alloc _ _
  have v0 : (w1.alloc (.cells #[.pointer Q0, .pointer Q1] 24)).cell? ⟨w1.heap.size, 0, none⟩ = some (.pointer Q0) := by rw [World.cell?_alloc_new]; rfl
  have v1 : (w1.alloc (.cells #[.pointer Q0, .pointer Q1] 24)).cell? ⟨w1.heap.size, 1, none⟩ = some (.pointer Q1) := by rw [World.cell?_alloc_new]; rfl
  have v2 : w1.heap.size < (w1.alloc (.cells #[.pointer Q0, .pointer Q1] 24)).heap.size := by simp
  generalize w1.alloc (.cells #[.pointer Q0, .pointer Q1] 24) = w2 at *
  replace na := na.far f2
  replace nb := nb.far f2
  replace n0 := n0.far f2
  replace n1 := n1.far f2
  replace st0 := st0.far f2
  replace st1 := st1.far f2
  replace q0 := q0.far f2
  replace q1 := q1.far f2
  replace p0 := p0.far f2
  replace p1 := p1.far f2
  replace r0 := r0.far f2
  replace r1 := r1.far f2
  replace f1 := f1.trans f2
  clear f2
  have la := na.lt
  have lb := nb.lt
  have ll0 := n0.lt
  have ll1 := n1.lt
  have HS : Hid (∀ W, Far w2 W → N4 W a b l0 l1 hi lo m netA netB P0 P1 R0 R1 sa sb o0 o1) := fun W f => N4.mk (na.far f) (nb.far f) (n0.far f) (n1.far f)
  go_cut [30, 31, 32, 33] (fun s30 s31 s32 s33 wx => ∃ c0 c1 c2 c3 : Nat, s30 = .pointer (some ⟨c0, 0, none⟩) ∧ s31 = .pointer (some ⟨c1, 0, none⟩) ∧ s32 = .pointer (some ⟨c2, 0, none⟩) ∧ s33 = .pointer (some ⟨c3, 0, none⟩) ∧ Far w2 wx ∧
      NodeAt wx c0 hi lo m netA P0 P1 sa ∧ NodeAt wx c1 hi lo m netB R0 R1 sb ∧ NodeAt wx c2 1 0 64 true none none o0 ∧ NodeAt wx c3 2 0 64 true none none o1)
  case first =>
    as_aux_lemma =>
      go_region_held3 (fun W => N4 W a b l0 l1 hi lo m netA netB P0 P1 R0 R1 sa sb o0 o1)
        (exact HS.out _ (by repeat (first | exact Far.refl _ | apply Far.drew | apply Far.drewN | apply Far.alloc | refine Far.setCell ?_ (by simp) _)))
        (fail)
      all_goals
        go_wp2_with fail
        go_meet
        case rel =>
          refine ⟨_, _, _, _, rfl, rfl, rfl, rfl, ?_, ?_, ?_, ?_, ?_⟩
          · repeat (first | exact Far.refl _ | apply Far.drew | apply Far.alloc)
          all_goals
            repeat (first | exact node_new _ _ _ _ _ _ _ _ _ (by simp) | apply NodeAt.on_drew | apply NodeAt.on_alloc)
  case rest =>
  obtain ⟨c0, c1, c2, c3, rfl, rfl, rfl, rfl, fc, d0, d1, d2, d3⟩ := hcut
  replace na := na.far fc
  replace nb := nb.far fc
  replace n0 := n0.far fc
  replace n1 := n1.far fc
  replace st0 := st0.far fc
  replace st1 := st1.far fc
  replace q0 := (q0.far fc).gp
  replace q1 := (q1.far fc).gp
  replace p0 := (p0.far fc).gp
  replace p1 := (p1.far fc).gp
  replace r0 := (r0.far fc).gp
  replace r1 := (r1.far fc).gp
  replace f1 := f1.trans fc
  replace v0 := (fc.cell _ _ v2).trans v0
  replace v1 := (fc.cell _ _ v2).trans v1
  replace v2 := Nat.lt_of_lt_of_le v2 fc.size
  clear HS fc w2 la lb ll0 ll1 ea eb
  have la := na.lt
  have lb := nb.lt
  have ll0 := n0.lt
  have ll1 := n1.lt
  go_wp2_with fail
  refine (jC a b hi lo m net netA netB Q0 Q1 P0 P1 R0 R1 sa sb t0 t1 _ na nb hn0 hn1 st0 st1 q0 q1 p0 p1 r0 r1).mono ?_
  rintro e w5 ⟨r, rfl, f5, hC⟩
  have HC : Hid _ := hC
  clear hC
  replace na := na.far f5
  replace nb := nb.far f5
  replace n0 := n0.far f5
  replace n1 := n1.far f5
  replace d0 := d0.far f5
  replace d1 := d1.far f5
  replace d2 := d2.far f5
  replace d3 := d3.far f5
  replace st0 := st0.far f5
  replace st1 := st1.far f5
  replace q0 := q0.far f5
  replace q1 := q1.far f5
  replace p0 := p0.far f5
  replace p1 := p1.far f5
  replace r0 := r0.far f5
  replace r1 := r1.far f5
  replace f1 := f1.trans f5
  replace v0 := (f5.cell _ _ v2).trans v0
  replace v1 := (f5.cell _ _ v2).trans v1
  have NA := N4.mk na nb n0 n1
  have NB := N4.mk d0 d1 d2 d3
  have e30a := law24in p0 p1
  have e30b := law24in r0 r1
  have e30c := law24in (w := w5) (.inl rfl : GP w5 none) (.inl rfl : GP w5 none)
  go_upto_region 4 with fail
  go_cut [96] from 36 (fun s96 w' => s96 = .bool false ∧ ∃ k, w' = w5.drewN k)
  case first =>
    as_aux_lemma =>
      go_quiet (fail)
      go_wp2_with fail
      go_meet
      exact ⟨rfl, _, rfl⟩
  case rest =>
  obtain ⟨rfl, nq, rfl⟩ := hcut
  go_upto_region 6 with fail
  have fq : Far w5 (w5.drewN nq) := (Far.refl _).drewN nq
  replace HC : Came (w5.drewN nq) r a b wc.heap.size hi lo m net netA netB Q0 Q1 P0 P1 R0 R1 t0 t1 := by
    rcases HC.out with h | h | h | h | ⟨h1, h2, h3, x, h4, h5, h6⟩
    · exact .inl h
    · exact .inr (.inl h)
    · exact .inr (.inr (.inl h))
    · exact .inr (.inr (.inr (.inl h)))
    · exact .inr (.inr (.inr (.inr ⟨h1, h2, h3, x, h4, h5, h6.far fq⟩)))
  replace na := na.far fq
  replace nb := nb.far fq
  replace n0 := n0.far fq
  replace n1 := n1.far fq
  replace d0 := d0.far fq
  replace d1 := d1.far fq
  replace st0 := st0.far fq
  replace st1 := st1.far fq
  replace q0 := q0.far fq
  replace q1 := q1.far fq
  replace p0 := p0.far fq
  replace p1 := p1.far fq
  replace r0 := r0.far fq
  replace r1 := r1.far fq
  replace f1 := f1.trans fq
  have v2' : w1.heap.size < w5.heap.size := Nat.lt_of_lt_of_le v2 f5.size
  replace v0 := (fq.cell _ _ v2').trans v0
  replace v1 := (fq.cell _ _ v2').trans v1
  have v3 : w1.heap.size < (w5.drewN nq).heap.size := v2'
  clear e30a e30b e30c NA NB d2 d3 fq v2' ha0 ha1 hb0 hb1 hs0 hs1 hn f5
  revert HC na nb n0 n1 d0 d1 st0 st1 q0 q1 p0 p1 r0 r1 f1 v0 v1 v3
  generalize w5.drewN nq = W
  intro HC na nb n0 n1 d0 d1 st0 st1 q0 q1 p0 p1 r0 r1 f1 v0 v1 v3
  have eP := eql_ptr W
  rcases HC with ⟨rfl, rfl, rfl⟩ | ⟨rfl, g, rfl, rfl⟩ | ⟨hB, rfl, rfl, rfl, rfl⟩ | ⟨hB, hA, rfl, rfl, rfl, rfl⟩ | ⟨hB, hA, hF, x, rfl, hx, nx⟩
  · as_aux_lemma =>
      have e := eP r r q1 q1
      simp at e
      clear eP na nb n0 n1 d0 d1 st0 st1 q0 q1 p0 p1 r0 r1 la lb ll0 ll1 z0 z1 z2 z3 v2 v3
      go_wp2
      go_ret
      exact ⟨rfl, f1.2⟩
  · as_aux_lemma =>
      have e := eP r r q0 q0
      simp at e
      clear eP na nb n0 n1 d0 d1 st0 st1 q0 q1 p0 p1 r0 r1 la lb ll0 ll1 z0 z1 z2 z3 v2 v3
      go_wp2
      go_ret
      exact ⟨rfl, f1.2⟩
  · as_aux_lemma =>
      have e := eP (some ⟨a, 0, none⟩) (some ⟨a, 0, none⟩) (.inr ⟨a, rfl, na.blk⟩) (.inr ⟨a, rfl, na.blk⟩)
      simp at e
      have le := law24W q0 q1 q0 q1 true (by simp)
      obtain ⟨_, _, _, _, x4, x5, _, _⟩ := d0
      clear eP na nb n0 n1 d1 st0 st1 q0 q1 p0 p1 r0 r1 la lb ll0 ll1 z0 z1 z2 z3 v2 v3
      rcases hB with rfl | ⟨rfl, g0, g1⟩
      all_goals
        go_wp2
        go_ret
        exact ⟨rfl, f1.2⟩
  · as_aux_lemma =>
      have e := eP (some ⟨b, 0, none⟩) (some ⟨b, 0, none⟩) (.inr ⟨b, rfl, nb.blk⟩) (.inr ⟨b, rfl, nb.blk⟩)
      simp at e
      have le := law24W q0 q1 q0 q1 true (by simp)
      obtain ⟨_, _, _, _, x4, x5, _, _⟩ := d0
      obtain ⟨_, _, _, _, y4, y5, _, _⟩ := d1
      have eA : ∃ X Y : Bool, (net == netA) = X ∧ (X = true → Y = false) ∧ (Op.equalIn 10000 24 (.agg #[.pointer Q0, .pointer Q1]) (.agg #[.pointer P0, .pointer P1])).run Yba.prog W = .ok Y W := by
        rcases hA with h | ⟨h, h'⟩
        · exact ⟨_, _, h, by simp, law24W q0 q1 p0 p1 _ rfl⟩
        · exact ⟨_, _, h, by simp, law24W q0 q1 p0 p1 _ h'⟩
      clear eP na nb n0 n1 st0 st1 q0 q1 p0 p1 r0 r1 la lb ll0 ll1 z0 z1 z2 z3 v2 v3 hA
      obtain ⟨X, Y, hX, hXY, lA⟩ := eA
      rcases hB with rfl | ⟨rfl, g0, g1⟩
      all_goals (cases netA <;> simp at hX <;> subst hX <;> simp at hXY <;> try subst hXY)
      all_goals
        go_wp2
        go_ret
        exact ⟨rfl, f1.2⟩
  · have ge : ∀ y, y < wc.heap.size → ∀ {h o k : Int} {nt : Bool} {u v : Option Addr} {z : Int}, NodeAt W y h o k nt u v z → (binOp .eql 23 (.pointer (some ⟨x, 0, none⟩)) (.pointer (some ⟨y, 0, none⟩))).run Yba.prog W = .ok (.bool false) W := fun y hy _ _ _ _ _ _ _ hn => by
      have hne : ¬ x = y := by omega
      have := eP (some ⟨x, 0, none⟩) (some ⟨y, 0, none⟩) (.inr ⟨x, rfl, nx.blk⟩) (.inr ⟨y, rfl, hn.blk⟩)
      simpa [hne] using this
    have ea := ge a la na
    have eb := ge b lb nb
    have el0 := ge l0 ll0 n0
    have el1 := ge l1 ll1 n1
    have eA : ∃ X Y : Bool, (net == netA) = X ∧ (X = true → Y = false) ∧ (Op.equalIn 10000 24 (.agg #[.pointer Q0, .pointer Q1]) (.agg #[.pointer P0, .pointer P1])).run Yba.prog W = .ok Y W := by
      rcases hA with h | ⟨h, h'⟩
      · exact ⟨_, _, h, by simp, law24W q0 q1 p0 p1 _ rfl⟩
      · exact ⟨_, _, h, by simp, law24W q0 q1 p0 p1 _ h'⟩
    have eF : ∃ X Y : Bool, (net == netB) = X ∧ (X = true → Y = false) ∧ (Op.equalIn 10000 24 (.agg #[.pointer Q0, .pointer Q1]) (.agg #[.pointer R0, .pointer R1])).run Yba.prog W = .ok Y W := by
      rcases hF with h | ⟨h, h'⟩
      · exact ⟨_, _, h, by simp, law24W q0 q1 r0 r1 _ rfl⟩
      · exact ⟨_, _, h, by simp, law24W q0 q1 r0 r1 _ h'⟩
    have le := law24' q0 q1
    have d0' : Hid _ := d0
    have nx' : Hid _ := nx
    have st0' : Hid (SumAt W Q0 t0) := st0
    have st1' : Hid (SumAt W Q1 t1) := st1
    obtain ⟨s0, s1, s2, s3, s4, s5, s6, _⟩ := d0
    have y4 := d1.c4
    have y5 := d1.c5
    clear d1
    obtain ⟨x0, x1, x2, x3, x4, x5, x6, _⟩ := nx
    clear eP ge na nb n0 n1 st0 st1 q0 q1 p0 p1 r0 r1 la lb ll0 ll1 z0 z1 z2 z3 v2 hA hF
    obtain ⟨X, Y, hX, hXY, lA⟩ := eA
    obtain ⟨U, V, hU, hUV, lB⟩ := eF
    have gA : ((net == netA) = false) ∨ ((net == netA) = true ∧ (Op.equalIn 10000 24 (.agg #[.pointer Q0, .pointer Q1]) (.agg #[.pointer P0, .pointer P1])).run Yba.prog W = .ok false W) := by
      cases X
      · exact .inl hX
      · exact .inr ⟨hX, by rw [lA, hXY rfl]⟩
    have gB : ((net == netB) = false) ∨ ((net == netB) = true ∧ (Op.equalIn 10000 24 (.agg #[.pointer Q0, .pointer Q1]) (.agg #[.pointer R0, .pointer R1])).run Yba.prog W = .ok false W) := by
      cases U
      · exact .inl hU
      · exact .inr ⟨hU, by rw [lB, hUV rfl]⟩
    have GA : Hid _ := gA
    have GB : Hid _ := gB
    have HB : Hid _ := hB
    clear hX hXY lA hU hUV lB gA gB hB
    go_cut [103] from 36 (fun s103 w' => s103 = .bool false ∧ W = w')
    case first =>
      as_aux_lemma =>
        rcases HB.out with h | ⟨h, g0, g1⟩
        all_goals
          subst h
          go_wp2
          go_meet
          exact ⟨rfl, rfl⟩
    case rest =>
    obtain ⟨rfl, rfl⟩ := hcut
    go_upto_region 8 with fail
    go_cut [114] from 36 (fun s114 w' => s114 = .bool false ∧ W = w')
    case first =>
      as_aux_lemma =>
        rcases HB.out with h | ⟨h, g0, g1⟩
        all_goals
          subst h
          go_wp2
          go_meet
          exact ⟨rfl, rfl⟩
    case rest =>
    obtain ⟨rfl, rfl⟩ := hcut
    clear HB
    go_upto_region 10 with fail
    go_cut [127] from 36 (fun s127 w' => s127 = .bool false ∧ W = w')
    case first =>
      as_aux_lemma =>
        rcases GA.out with h | ⟨h, lA⟩
        all_goals
          cases net <;> cases netA <;> simp at h
          all_goals
            go_wp2
            go_meet
            exact ⟨rfl, rfl⟩
    case rest =>
    obtain ⟨rfl, rfl⟩ := hcut
    clear GA
    go_upto_region 12 with fail
    go_cut [139] from 36 (fun s139 w' => s139 = .bool false ∧ W = w')
    case first =>
      as_aux_lemma =>
        rcases GB.out with h | ⟨h, lA⟩
        all_goals
          cases net <;> cases netB <;> simp at h
          all_goals
            go_wp2
            go_meet
            exact ⟨rfl, rfl⟩
    case rest =>
    obtain ⟨rfl, rfl⟩ := hcut
    clear GB
    go_upto_region 16 with fail
    go_cut [187] from 36 (fun s187 w' => s187 = .bool false ∧ ∃ k, w' = W.drewN k)
    case first =>
      as_aux_lemma =>
        go_quiet (fail)
        go_wp2_with fail
        go_meet
        exact ⟨rfl, _, rfl⟩
    case rest =>
    obtain ⟨rfl, nr, rfl⟩ := hcut
    have fq : Far W (W.drewN nr) := (Far.refl _).drewN nr
    have d0 := d0'.out.far fq
    have nx := nx'.out.far fq
    have st0 := st0'.out.far fq
    have st1 := st1'.out.far fq
    replace f1 := f1.trans fq
    replace v0 := (fq.cell _ _ v3).trans v0
    replace v1 := (fq.cell _ _ v3).trans v1
    clear d0' nx' st0' st1' s0 s1 s2 s3 s4 s5 s6 y4 y5 x0 x1 x2 x3 x4 x5 x6 fq v3 le ea eb el0 el1
    revert d0 nx st0 st1 f1 v0 v1
    generalize W.drewN nr = W7
    intro d0 nx st0 st1 f1 v0 v1
    obtain ⟨s0, s1, s2, _, _, _, _, _⟩ := d0
    go_upto_region 19 with (go_at_call 7; refine (summed_box hi lo m _ Q0 Q1 t0 t1 W7 hn0 hn1 st0 st1).mono ?_; rintro e w8 ⟨rfl, f8, n8⟩)
    have x6 := (nx.far f8).c6
    have y6 := n8.c6
    replace f1 := f1.trans f8
    clear nx n8 f8 s0 s1 s2 v0 v1 st0 st1
    go_quiet (fail)
    go_wp2
    go_ret
    exact ⟨rfl, (f1.drewN _).2⟩
end Go.Proofs.Ybulkbnry
