import Derived.Test.YbulkbnxwFmtRows
import Derived.Test.YbulkbnxwFmtCards
import Derived.Test.YbulkbnxwFmtLaw
import Derived.ProofKit
import Derived.Lay
import Derived.OpenShut
import Derived.ChangeOld
import Derived.SevenToldRow
import Derived.Stop.JoinedAt
import Derived.Stop.JoinedTold
namespace Go.Proofs.YbulkbnxwFmt
open Go.ChangeShapes Go.WideShapes Go.ChangeAt Go.RowKit Go.Kit
open Go.Extern.Stop Go.Stop Go.Extern

theorem Ybaf.own : ownKnob Ybaf.prog.godebug = none := by kernel_rfl
theorem Ybaf.laidOut : laidOutB Ybaf.pinned.checked.prog = true := by kernel_rfl

theorem law_any (x : Int) (a1 a2 : Option Addr) (l1 c1 l2 c2 : Nat) (d : Int) (w : World) (hx0 : 0 ≤ x) (hx : x ≤ 65535) (m1 : l1 ≤ 9223372036854775807) (m2 : l2 ≤ 9223372036854775807) (r1 : Row .i64 w a1 l1) (r2 : Row .u8 w a2 l2) :
    Calls Ybaf.prog 5 #[.int .u16 x, .slice a1 l1 c1, .slice a2 l2 c2, .int .i64 d] w fun e w' => e = .returned (.bool true) ∧ Below w.heap.size w w' := by
  by_cases h : 1024 < l1 ∨ 1024 < l2
  · exact law_long x a1 a2 l1 c1 l2 c2 d w m1 m2 h
  · obtain ⟨m, rfl⟩ : ∃ m : Nat, x = m := ⟨x.toNat, by omega⟩
    exact law_short m a1 a2 l1 c1 l2 c2 d w (by omega) r1 r2 (by omega) (by omega)

/-- The input by which the premises are shown to be met: zero, nil, nil, zero. -/
def inp : Input := ⟨#[], #[.int .u16 0, .slice none 0 0, .slice none 0 0, .int .i64 0], []⟩
set_option maxRecDepth 100000 in
theorem wit_vars (os : Os) (tape : Tape) : ((World.holding Ybaf.prog os inp).forCall tape ⟨#[], inp.args, []⟩).variablesZipB Ybaf.prog = true := by kernel_rfl
set_option maxRecDepth 100000 in
theorem wit_rest (os : Os) : ((World.plainHolding Ybaf.prog os inp).heap.toList.drop Ybaf.prog.globals.size).take ((begin Ybaf.prog (fun _ _ => 0) default).world.heap.size - Ybaf.prog.globals.size) =
      (begin Ybaf.prog (fun _ _ => 0) default).world.heap.toList.drop Ybaf.prog.globals.size := by kernel_rfl
set_option maxRecDepth 100000 in
theorem wit_ok (os : Os) : Input.okWideB Ybaf.prog (World.plainHolding Ybaf.prog os inp) 5 ⟨#[], inp.args, []⟩ = true := by kernel_rfl
set_option maxRecDepth 100000 in
theorem wit_pre (os : Os) (H : Type) (enc : TypeId × Value → H) : (OpenSpec.ofChange Rows.lawS3233CDecidesMajoritySpec).bare.preB enc Ybaf.prog Ybaf.f5 [] false (World.plainHolding Ybaf.prog os inp).memory inp.args 8 = true := by kernel_rfl
set_option maxRecDepth 100000 in
theorem wit_size (os : Os) (H : Type) (enc : TypeId × Value → H) : (OpenSpec.ofChange Rows.lawS3233CDecidesMajoritySpec).bare.sizedB enc Ybaf.prog Ybaf.f5 false (World.plainHolding Ybaf.prog os inp).memory inp.args 8 = true := by kernel_rfl
/-- The premises can be met, whatever the program: the world's shape is shown in one pass over each variable (at Go's great tables the kernel has no room for the other way). -/
theorem wit_zip {H : Type} {enc : TypeId × Value → H} {C : Checked} {os : Os} {f : FuncId} {fn : Func} {s : OpenSpec} (i : Input) (fuel : Nat)
    (hv : ∀ tape, ((World.holding C.prog os i).forCall tape ⟨#[], i.args, []⟩).variablesZipB C.prog = true)
    (hr : ((World.plainHolding C.prog os i).heap.toList.drop C.prog.globals.size).take ((begin C.prog (fun _ _ => 0) default).world.heap.size - C.prog.globals.size) =
      (begin C.prog (fun _ _ => 0) default).world.heap.toList.drop C.prog.globals.size)
    (hok : Input.okWideB C.prog (World.plainHolding C.prog os i) f ⟨#[], i.args, []⟩ = true)
    (hpre : s.bare.preB enc C.prog fn [] false (World.plainHolding C.prog os i).memory i.args fuel = true)
    (hsz : s.bare.sizedB enc C.prog fn false (World.plainHolding C.prog os i).memory i.args fuel = true) (hk : s.cond = none) (F : Stop.Interp) :
    ∃ (w : World) (tape : Tape) (i : Input), w.os = os ∧ (w.forCall tape i).Shaped C.prog ∧ i.vars = [] ∧ Input.okWide C.prog (w.forCall tape i) .any w.heap.size f i ∧
      s.preRow enc C.prog fn [] false [] (w.forCall tape i).memory i.args ∧ ({} : Assume).holds C.prog (lone (Frame.enter C.prog f i.args .normal) [] (w.forCall tape i)) ∧ F.answers tape :=
  ⟨World.holding C.prog os i, F.over fun _ _ => 0, ⟨#[], i.args, []⟩, rfl, World.shaped_of_ZipB (hv _) hr, (Input.okWide_of_okWideB (base := 0) hok).1, (Input.okWide_of_okWideB hok).2, OpenSpec.preRow_of_B hk fuel hpre hsz (laidMetH_nil _ _), by
    simp only [Assume.holds]
    exact ⟨by simp, by simp, fun _ => F.over_modest Modest.zero, by simp, by simp⟩, F.over_answers _⟩

/-- A slice of integers that came in, opened. -/
theorem row_of {H : Type} {enc : TypeId × Value → H} {W : World} {t e : TypeId} {k : IntKind} {a : Option Addr} {len cap : Nat} {d0 : DataW H} {p0 : List MemPlace} (ht : Ybaf.prog.underlying t = some (.slice e)) (he : Ybaf.prog.underlying e = some (.int k)) (hc : Ybaf.prog.cellsOf e = 1)
    (h0 : DataW.Trod enc Ybaf.prog W 0 (fun _ => true) true t (.slice a len cap) d0 p0) : Row k W a len ∧ len ≤ 9223372036854775807 := by
  obtain ⟨fuel, hf⟩ := h0
  rcases open_ints ht he hc hf with ⟨hcs, _⟩ | ⟨x, l, c, zs, hcs, _, hl, hm, hz, _, hcell, hwz⟩
  · simp [Value.cells] at hcs
    obtain ⟨rfl, rfl, rfl⟩ := hcs
    exact ⟨fun k hk => absurd hk (Nat.not_lt_zero _), by omega⟩
  · simp [Value.cells] at hcs
    obtain ⟨rfl, rfl, rfl⟩ := hcs
    refine ⟨fun i hi => ?_, by unfold maxLen at hm; omega⟩
    obtain ⟨b, off, spot⟩ := x
    have hzl : zs.length = cap := by simpa using hz
    have hc00 := hcell 0 (by omega)
    have hspot : spot = none := by simpa [Addr.add] using World.cell?_spot hc00
    subst hspot
    have hc := hcell i (by omega)
    have hplain : (⟨b, off, none⟩ : Addr).add i = ⟨b, off + i, none⟩ := by unfold Addr.add; split <;> simp_all
    rw [hplain] at hc
    exact ⟨b, off, zs.getD i 0, rfl, block_lt_of_cell hc, hc⟩

set_option maxRecDepth 100000 in
set_option maxHeartbeats 4000000 in
theorem lifted (os : Os) (started : os.Started) (H : Type) (enc : TypeId × Value → H) :
    ReturnsInTold none {} Ybaf.checked os 5 .any Input.okWide ((OpenSpec.ofChange Rows.lawS3233CDecidesMajoritySpec).preRow enc Ybaf.prog Ybaf.f5 [] false []) (fun F => ((OpenSpec.ofChange Rows.lawS3233CDecidesMajoritySpec).at F).post enc Ybaf.prog Ybaf.f5 false true false false) (aloneAtReturn Ybaf.prog) nothingAlways := by
  refine returnsInTold_of_row (C := Ybaf.checked) (s := OpenSpec.ofChange Rows.lawS3233CDecidesMajoritySpec) (by kernel_rfl) Ybaf.own started (by kernel_rfl) Ybaf.func5
    (wit_zip (enc := enc) (C := Ybaf.checked) inp 8 (wit_vars os) (wit_rest os) (wit_ok os) (wit_pre os H enc) (wit_size os H enc) rfl) ?_
  intro F W base args ds gs before _ hF hval0 hW _ _ _ _ _
  have hval : ∀ (j : Nat) t v, Ybaf.f5.params[j]? = some t → args[j]? = some v → Value.okWide Ybaf.prog W .any base t v := hval0
  have hW' := hW
  obtain ⟨p, q, hA0, hV0, rfl, _, _⟩ := hW
  have hA : DataW.TrodAll enc Ybaf.prog W 0 (fun _ => true) true Ybaf.f5.params.toList args.toList ds p := hA0
  rw [Ybaf.params5] at hA hval
  obtain ⟨v0, vs0, d0, ds0, p0, q0, hargs, rfl, rfl, h0, r0⟩ := trodAll_cons hA
  obtain ⟨v1, vs1, d1, ds1, p1, q1, rfl, rfl, rfl, h1, r1⟩ := trodAll_cons r0
  obtain ⟨v2, vs2, d2, ds2, p2, q2, rfl, rfl, rfl, h2, r2⟩ := trodAll_cons r1
  obtain ⟨v3, vs3, d3, ds3, p3, q3, rfl, rfl, rfl, h3, r3⟩ := trodAll_cons r2
  obtain ⟨rfl, rfl, rfl⟩ := trodAll_nil r3
  obtain rfl : args = #[v0, v1, v2, v3] := by cases args; simp_all
  obtain ⟨rfl, rfl⟩ := trodVars_none hV0
  obtain ⟨x, rfl, rfl, rfl, wx⟩ := open_int Ybaf.underlying37 (hval 0 37 v0 rfl rfl) h0
  obtain ⟨a1, len1, cap1, rfl⟩ := okWide_slice Ybaf.underlying38 (hval 1 38 v1 rfl rfl)
  obtain ⟨a2, len2, cap2, rfl⟩ := okWide_slice Ybaf.underlying22 (hval 2 22 v2 rfl rfl)
  obtain ⟨dd, rfl, rfl, rfl, wd⟩ := open_int Ybaf.underlying2 (hval 3 2 v3 rfl rfl) h3
  have lt1 : ∀ x ∈ p1, x.block < W.heap.size := by obtain ⟨m, hm⟩ := h1; exact DataW.trod_lt m _ _ _ hm
  have lt2 : ∀ x ∈ p2, x.block < W.heap.size := by obtain ⟨m, hm⟩ := h2; exact DataW.trod_lt m _ _ _ hm
  obtain ⟨row1, m1⟩ := row_of Ybaf.underlying38 Ybaf.underlying2 (by kernel_rfl) h1
  obtain ⟨row2, m2⟩ := row_of Ybaf.underlying22 Ybaf.underlying5 (by kernel_rfl) h2
  obtain ⟨x0, x1⟩ : 0 ≤ x ∧ x ≤ 65535 := by
    simpa [Lit.wf, IntKind.min, IntKind.max, IntKind.signed, IntKind.bits] using wx
  clear hA0 hV0 hval0
  refine (law_any x a1 a2 len1 cap1 len2 cap2 dd W x0 x1 m1 m2 row1 row2).mono ?_
  rintro e W' ⟨rfl, bel⟩
  exact ⟨_, rfl, _, _, _, [], _, [], hW', trodAll_mk1 (shut_bool Ybaf.underlying4 _), (trodAll_cons_mk (shut_int Ybaf.underlying37 wx) (trodAll_cons_mk (Below.trod Ybaf.laidOut (by kernel_rfl) (of_decide_eq_true (by kernel_rfl)) h1 bel lt1) (trodAll_cons_mk (Below.trod Ybaf.laidOut (by kernel_rfl) (of_decide_eq_true (by kernel_rfl)) h2 bel lt2) (trodAll_cons_mk (shut_int Ybaf.underlying2 wd) trodAll_mk0)))), rfl, bel.frame _, fun h => by cases h⟩

theorem Ybaf.stops : Ybaf.pinned.checked.prog.stops = ["fmt.Sprintf, its operands' methods called", "fmt.errorf"] := by kernel_rfl
theorem Ybaf.stopKnobs : Ybaf.pinned.checked.prog.stopKnobs = [] := by kernel_rfl
theorem Ybaf.quiet (os : Os) : Stop.quiet Ybaf.pinned.checked.prog os := by
  intro k hk
  rw [Ybaf.stopKnobs] at hk
  cases hk

/-- THE STATEMENT. -/
theorem lawS3233CDecidesMajority.proved : Rows.LawS3233CDecidesMajorityToldSaid :=
  Claim7.holds_of_told_any 5 Ybaf.f5 "fmt.Sprintf, its operands' methods called" ["fmt.errorf"] [] _ _ _ (by kernel_rfl) rfl rfl rfl Ybaf.laidOut (by kernel_rfl) rfl ⟨rfl, rfl, rfl, rfl, rfl, rfl, rfl⟩ rfl rfl (by kernel_rfl) (by kernel_rfl) Ybaf.func5 (by kernel_rfl)
    (of_decide_eq_true (by kernel_rfl)) (of_decide_eq_true (by kernel_rfl)) Ybaf.stops.symm rfl Ybaf.stopKnobs.symm (by kernel_rfl)
    (by kernel_rfl) (by kernel_rfl) (by kernel_rfl) (by kernel_rfl) (by kernel_rfl) (by kernel_rfl) (by kernel_rfl) (by kernel_rfl) (by kernel_rfl) rfl (by kernel_rfl) rfl rfl
    rfl rfl
    rfl (by kernel_rfl) (by kernel_rfl) (by kernel_rfl) (by decide) (by kernel_rfl)
    (OpenClaim.moreEntering_of (by kernel_rfl) (by kernel_rfl) (by kernel_rfl) (by kernel_rfl) (by kernel_rfl) (by kernel_rfl) (by kernel_rfl) (by kernel_rfl) (by kernel_rfl) (by kernel_rfl))
    ⟨_, WideRow.started_initial, Ybaf.quiet _⟩
    (fun os started _ H enc _ => lifted os started H enc)
end Go.Proofs.YbulkbnxwFmt
