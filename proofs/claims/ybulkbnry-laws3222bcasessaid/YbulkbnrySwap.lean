import Derived.Test.YbulkbnryJoin
namespace Go.Proofs.Ybulkbnry
open Go.RowKit
set_option linter.unusedSimpArgs false

theorem pick_sum {l0 l1 : Nat} (h : l0 < l1) (s t : Int) (e : pickF s (some ⟨l0, 0, none⟩) (some ⟨l1, 0, none⟩) = pickF t (some ⟨l0, 0, none⟩) (some ⟨l1, 0, none⟩)) : sumP s = sumP t := by
  unfold pickF at e; unfold sumP
  have hne : ¬ l0 = l1 := by omega
  have hne' : ¬ l1 = l0 := by omega
  by_cases a : s % 3 = 0 <;> by_cases b : s % 3 = 1 <;> by_cases c : t % 3 = 0 <;> by_cases d : t % 3 = 1 <;> simp [a, b, c, d, hne, hne'] at e ⊢ <;> omega

/-- The case of two nodes below, or a network: whichever node comes out, it holds the same. -/
theorem jB (a b : Nat) (hi lo n : Int) (net netA netB : Bool) (q0 q1 p0 p1 r0 r1 : Option Addr) (s s' t0 t1 : Int) (w : World) (ha : NodeAt w a hi lo n netA p0 p1 s) (hb : NodeAt w b hi lo n netB r0 r1 s')
    (h0 : 0 ≤ n) (h1 : n ≤ 128) (st0 : SumAt w q0 t0) (st1 : SumAt w q1 t1)
    (g0 : GP w q0) (g1 : GP w q1) (k0 : GP w p0) (k1 : GP w p1) (m0 : GP w r0) (m1 : GP w r1) (hs : Both net q0 q1)
    (ea : net = netA → q0 = p0 → q1 = p1 → s = sumF hi lo n net t0 t1) (eb : net = netB → q0 = r0 → q1 = r1 → s' = sumF hi lo n net t0 t1) :
    Calls Yba.prog 6 #[.pointer (some ⟨a, 0, none⟩), .pointer (some ⟨b, 0, none⟩), .bool net, .agg #[.pointer q0, .pointer q1]] w fun e w' =>
      ∃ r, e = .returned (.pointer (some ⟨r, 0, none⟩)) ∧ Far w w' ∧ NodeAt w' r hi lo n net q0 q1 (sumF hi lo n net t0 t1) := by
  have dec : ∀ (x : Bool) (u v : Option Addr), (net = x ∧ q0 = u ∧ q1 = v) ∨ Fails net x q0 q1 u v := fun x u v => by
    unfold Fails
    by_cases e1 : net = x
    · by_cases e2 : q0 = u
      · by_cases e3 : q1 = v
        · exact .inl ⟨e1, e2, e3⟩
        · exact .inr (.inr ⟨by simp [e1], by simp [e3]⟩)
      · exact .inr (.inr ⟨by simp [e1], by simp [e2]⟩)
    · exact .inr (.inl (by simp [e1]))
  rcases dec netA p0 p1 with ⟨rfl, rfl, rfl⟩ | hA
  · have e := ea rfl rfl rfl
    subst e
    refine (join3 a b hi lo n net q0 q1 _ w ha g0 g1 hs).mono ?_
    rintro e w' ⟨rfl, hf⟩
    exact ⟨a, rfl, hf, ha.far hf⟩
  rcases dec netB r0 r1 with ⟨rfl, rfl, rfl⟩ | hB
  · have e := eb rfl rfl rfl
    subst e
    refine (join4 a b hi lo n hi lo n net netA q0 q1 p0 p1 s _ w ha hb g0 g1 k0 k1 hs hA).mono ?_
    rintro e w' ⟨rfl, hf⟩
    exact ⟨b, rfl, hf, hb.far hf⟩
  · refine (join5 a b hi lo n hi lo n net netA netB q0 q1 p0 p1 r0 r1 s s' t0 t1 w ha hb h0 h1 st0 st1 g0 g1 k0 k1 m0 m1 hs hA hB).mono ?_
    rintro e w' ⟨r, rfl, _, hf, hn⟩
    exact ⟨r, rfl, hf, hn⟩

/-- nil, or a leaf. -/
def Leaf (w : World) (p : Option Addr) : Prop := p = none ∨ ∃ l h o m s, p = some ⟨l, 0, none⟩ ∧ NodeAt w l h o m true none none s
theorem Leaf.gp {w : World} {p : Option Addr} (h : Leaf w p) : GP w p := by
  rcases h with h | ⟨l, _, _, _, _, h, k⟩
  · exact .inl h
  · exact .inr ⟨l, h, k.blk⟩
theorem Leaf.far {w w' : World} {p : Option Addr} (h : Leaf w p) (f : Far w w') : Leaf w' p := by
  rcases h with h | ⟨l, a, b, c, d, h, k⟩
  · exact .inl h
  · exact .inr ⟨l, a, b, c, d, h, k.far f⟩
theorem Leaf.pick {w : World} {l0 l1 : Nat} {a b c d a' b' c' d' : Int} (h : NodeAt w l0 a b c true none none d) (k : NodeAt w l1 a' b' c' true none none d') (s : Int) : Leaf w (pickF s (some ⟨l0, 0, none⟩) (some ⟨l1, 0, none⟩)) := by
  unfold pickF
  split
  · exact .inl rfl
  · split
    · exact .inr ⟨l0, _, _, _, _, rfl, h⟩
    · exact .inr ⟨l1, _, _, _, _, rfl, k⟩

/-- j1 and j2 in one form: one node below, or none, and no network. -/
theorem jL (a b x : Nat) (q0 q1 p0 p1 : Option Addr) (h o m : Int) (nt : Bool) (s : Int) (w : World) (hx : NodeAt w x h o m nt p0 p1 s) (hq : (q0 = none ∧ q1 = some ⟨x, 0, none⟩) ∨ (q0 = some ⟨x, 0, none⟩ ∧ q1 = none)) :
    Calls Yba.prog 6 #[.pointer (some ⟨a, 0, none⟩), .pointer (some ⟨b, 0, none⟩), .bool false, .agg #[.pointer q0, .pointer q1]] w fun e w' =>
      ∃ r, e = .returned (.pointer (some ⟨r, 0, none⟩)) ∧ Far w w' ∧ NodeAt w' r h o m nt p0 p1 s := by
  rcases hq with ⟨rfl, rfl⟩ | ⟨rfl, rfl⟩
  · refine (join1 a b _ w).mono ?_
    rintro e w' ⟨rfl, f⟩
    exact ⟨x, rfl, f, hx.far f⟩
  · refine (join2 a b _ w).mono ?_
    rintro e w' ⟨rfl, f⟩
    exact ⟨x, rfl, f, hx.far f⟩

theorem law24' {w : World} {q0 q1 : Option Addr} (h0 : GP w q0) (h1 : GP w q1) :
    ∀ k, (Op.equalIn 10000 24 (.agg #[.pointer q0, .pointer q1]) (.agg #[.pointer q0, .pointer q1])).run Yba.prog (w.drewN k) = .ok true (w.drewN k) := fun k => by
  have f : Far w (w.drewN k) := (Far.refl w).drewN k
  rw [eqIn_arr _ 9998 _ _ _ _ (h0.far f) (h1.far f) (h0.far f) (h1.far f)]
  simp

set_option maxHeartbeats 2000000 in
theorem swap_walk (net netA netB : Bool) (a0 a1 b0 b1 s0 s1 hi lo n : Int) (w : World) (ha0 : 0 ≤ a0 ∧ a0 ≤ 255) (ha1 : 0 ≤ a1 ∧ a1 ≤ 255) (hb0 : 0 ≤ b0 ∧ b0 ≤ 255) (hb1 : 0 ≤ b1 ∧ b1 ≤ 255)
    (hs0 : 0 ≤ s0 ∧ s0 ≤ 255) (hs1 : 0 ≤ s1 ∧ s1 ≤ 255) (hn : 0 ≤ n ∧ n ≤ 255) :
    Calls Yba.prog 4 #[.bool net, .bool netA, .bool netB, .int .u8 a0, .int .u8 a1, .int .u8 b0, .int .u8 b1, .int .u8 s0, .int .u8 s1, .int .u64 hi, .int .u64 lo, .int .u8 n] w fun e w' => e = .returned (.bool true) ∧ Grown w w' := by
  go_enter Yba.func4, Yba.ntmps4
  go_wp2_with fail
  refine (build_any netA netB a0 a1 b0 b1 s0 s1 hi lo n _ ha0 ha1 hb0 hb1 hs0 hs1 hn).mono ?_
  rintro e w1 ⟨l0, l1, a, b, rfl, f1, z0, z1, z2, z3, n0, n1, na, nb⟩
  go_wp2_with fail
  have L := Leaf.pick n0 n1
  have M := SumAt.pick n0 n1
  have P := pick_sum z1
  have st0 := M s0
  have st1 := M s1
  have A : ∀ c0 c1 nt, net = nt → pickF s0 (some ⟨l0, 0, none⟩) (some ⟨l1, 0, none⟩) = pickF c0 (some ⟨l0, 0, none⟩) (some ⟨l1, 0, none⟩) → pickF s1 (some ⟨l0, 0, none⟩) (some ⟨l1, 0, none⟩) = pickF c1 (some ⟨l0, 0, none⟩) (some ⟨l1, 0, none⟩) →
      sumF hi lo (n % 129) nt (sumP c0) (sumP c1) = sumF hi lo (n % 129) net (sumP s0) (sumP s1) := fun c0 c1 nt h e0 e1 => by rw [h, P _ _ e0, P _ _ e1]
  have ea := A a0 a1 netA
  have eb := A b0 b1 netB
  have q0 := L s0
  have q1 := L s1
  have p0 := L a0
  have p1 := L a1
  have r0 := L b0
  have r1 := L b1
  clear A P M L n0 n1
  have hn0 : 0 ≤ n % 129 := by omega
  have hn1 : n % 129 ≤ 128 := by omega
  generalize n % 129 = m at *
  generalize sumF hi lo m netA (sumP a0) (sumP a1) = sa at *
  generalize sumF hi lo m netB (sumP b0) (sumP b1) = sb at *
  generalize sumP s0 = t0 at *
  generalize sumP s1 = t1 at *
  generalize pickF s0 (some ⟨l0, 0, none⟩) (some ⟨l1, 0, none⟩) = Q0 at *
  generalize pickF s1 (some ⟨l0, 0, none⟩) (some ⟨l1, 0, none⟩) = Q1 at *
  generalize pickF a0 (some ⟨l0, 0, none⟩) (some ⟨l1, 0, none⟩) = P0 at *
  generalize pickF a1 (some ⟨l0, 0, none⟩) (some ⟨l1, 0, none⟩) = P1 at *
  generalize pickF b0 (some ⟨l0, 0, none⟩) (some ⟨l1, 0, none⟩) = R0 at *
  generalize pickF b1 (some ⟨l0, 0, none⟩) (some ⟨l1, 0, none⟩) = R1 at *
  have f2 : Far w1 (w1.alloc (.cells #[.pointer Q0, .pointer Q1] 24)) := (Far.refl _).alloc _ _
  have v0 : (w1.alloc (.cells #[.pointer Q0, .pointer Q1] 24)).cell? ⟨w1.heap.size, 0, none⟩ = some (.pointer Q0) := by rw [World.cell?_alloc_new]; rfl
  have v1 : (w1.alloc (.cells #[.pointer Q0, .pointer Q1] 24)).cell? ⟨w1.heap.size, 1, none⟩ = some (.pointer Q1) := by rw [World.cell?_alloc_new]; rfl
  have v2 : w1.heap.size < (w1.alloc (.cells #[.pointer Q0, .pointer Q1] 24)).heap.size := by simp
  generalize w1.alloc (.cells #[.pointer Q0, .pointer Q1] 24) = w2 at *
  replace na := na.far f2
  replace nb := nb.far f2
  replace st0 := st0.far f2
  replace st1 := st1.far f2
  replace q0 := q0.far f2
  replace q1 := q1.far f2
  replace p0 := p0.far f2
  replace p1 := p1.far f2
  replace r0 := r0.far f2
  replace r1 := r1.far f2
  replace f1 := f1.trans f2
  clear f2
  -- what the two calls hand back, in each case
  by_cases hN : net = false ∧ Q0 = none ∧ Q1 = none
  · obtain ⟨rfl, rfl, rfl⟩ := hN
    refine (join1 a b none _).mono ?_
    rintro e w3 ⟨rfl, f3⟩
    have u0 := (f3.cell _ _ v2).trans v0
    have u1 := (f3.cell _ _ v2).trans v1
    have F := f1.trans f3
    clear f1 f3 ea eb v0 v1 v2 na nb st0 st1 q0 q1 p0 p1 r0 r1
    go_wp2_with fail
    refine (join1 b a none _).mono ?_
    rintro e w4 ⟨rfl, f4⟩
    go_wp2
    go_ret
    exact ⟨rfl, (F.trans f4).2⟩
  have J : ∃ (h o m' : Int) (nt : Bool) (c0 c1 : Option Addr) (sm : Int), GP w2 c0 ∧ GP w2 c1 ∧ ∀ x y, ((x = a ∧ y = b) ∨ (x = b ∧ y = a)) → ∀ w', Far w2 w' →
      Calls Yba.prog 6 #[.pointer (some ⟨x, 0, none⟩), .pointer (some ⟨y, 0, none⟩), .bool net, .agg #[.pointer Q0, .pointer Q1]] w' fun e w'' => ∃ r, e = .returned (.pointer (some ⟨r, 0, none⟩)) ∧ Far w' w'' ∧ NodeAt w'' r h o m' nt c0 c1 sm := by
    have B : Both net Q0 Q1 → ∀ x y, ((x = a ∧ y = b) ∨ (x = b ∧ y = a)) → ∀ w', Far w2 w' →
      Calls Yba.prog 6 #[.pointer (some ⟨x, 0, none⟩), .pointer (some ⟨y, 0, none⟩), .bool net, .agg #[.pointer Q0, .pointer Q1]] w' fun e w'' => ∃ r, e = .returned (.pointer (some ⟨r, 0, none⟩)) ∧ Far w' w'' ∧ NodeAt w'' r hi lo m net Q0 Q1 (sumF hi lo m net t0 t1) := by
      rintro hb x y (⟨rfl, rfl⟩ | ⟨rfl, rfl⟩) w' f
      · exact jB _ _ hi lo m net netA netB Q0 Q1 P0 P1 R0 R1 sa sb t0 t1 w' (na.far f) (nb.far f) hn0 hn1 (st0.far f) (st1.far f) (q0.far f).gp (q1.far f).gp (p0.far f).gp (p1.far f).gp (r0.far f).gp (r1.far f).gp hb ea eb
      · exact jB _ _ hi lo m net netB netA Q0 Q1 R0 R1 P0 P1 sb sa t0 t1 w' (nb.far f) (na.far f) hn0 hn1 (st0.far f) (st1.far f) (q0.far f).gp (q1.far f).gp (r0.far f).gp (r1.far f).gp (p0.far f).gp (p1.far f).gp hb eb ea
    cases net with
    | true => exact ⟨_, _, _, _, _, _, _, q0.gp, q1.gp, B (.inl rfl)⟩
    | false =>
      have q0' := q0
      have q1' := q1
      rcases q0' with e0 | ⟨l, c1, c2, c3, c4, e0, k0⟩
      · rcases q1' with e1 | ⟨l', d1, d2, d3, d4, e1, k1⟩
        · exact absurd ⟨rfl, e0, e1⟩ hN
        · exact ⟨_, _, _, _, _, _, _, .inl rfl, .inl rfl, fun x y _ w' f => jL x y l' Q0 Q1 none none _ _ _ _ _ w' (k1.far f) (.inl ⟨e0, e1⟩)⟩
      · rcases q1' with e1 | ⟨l', d1, d2, d3, d4, e1, k1⟩
        · exact ⟨_, _, _, _, _, _, _, .inl rfl, .inl rfl, fun x y _ w' f => jL x y l Q0 Q1 none none _ _ _ _ _ w' (k0.far f) (.inr ⟨e0, e1⟩)⟩
        · exact ⟨_, _, _, _, _, _, _, q0.gp, q1.gp, B (.inr ⟨rfl, by simp [e0], by simp [e1]⟩)⟩
  clear ea eb na nb st0 st1 q0 q1 p0 p1 r0 r1 hN hn0 hn1
  obtain ⟨h, o, m', nt, c0, c1, sm, g0, g1, J⟩ := J
  have HJ : Hid _ := J
  clear J
  refine Calls.mono (HJ.out a b (.inl ⟨rfl, rfl⟩) _ (Far.refl _)) ?_
  rintro e w3 ⟨x, rfl, f3, nx⟩
  have u0 := (f3.cell _ _ v2).trans v0
  have u1 := (f3.cell _ _ v2).trans v1
  clear v0 v1
  go_wp2_with fail
  refine Calls.mono (HJ.out b a (.inr ⟨rfl, rfl⟩) _ f3) ?_
  rintro e w4 ⟨y, rfl, f4, ny⟩
  replace nx := nx.far f4
  have F := (f1.trans f3).trans f4
  have le := law24' (g0.far (f3.trans f4)) (g1.far (f3.trans f4))
  obtain ⟨x0, x1, x2, x3, x4, x5, x6, _⟩ := nx
  obtain ⟨y0, y1, y2, y3, y4, y5, y6, _⟩ := ny
  clear HJ f1 f3 f4 g0 g1 u0 u1
  go_wp2
  go_quiet (fail)
  go_wp2
  go_ret
  exact ⟨rfl, (F.drewN _).2⟩
end Go.Proofs.Ybulkbnry
