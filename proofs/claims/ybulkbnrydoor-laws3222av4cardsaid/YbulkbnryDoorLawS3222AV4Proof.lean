import Derived.Test.YbulkbnryDoorOpen4
import Derived.Test.YbulkbnryDoorCards
import Derived.Test.YbulkbnryDoorTie
import Derived.Lay
import Derived.OpenShut
import Derived.SevenTiedAt
namespace Go.Proofs.YbulkbnryDoor
open Go.ChangeShapes Go.WideShapes Go.ChangeAt Go.RowKit
set_option linter.unusedVariables false

/-- A world in which the two variables hold what the row lists. -/
theorem door_met4 (os : Os) (args : Array Value) : laidMetH Ybad.prog Rows.lawS3222AV4Row.laid ((World.laidAll Ybad.prog os Rows.lawS3222AV4Row.laid).forCall (fun _ _ => 0) ⟨#[], args, []⟩).memory := by
  rw [MakeChecks.laidMetH_plain _ _ _ (by kernel_rfl)]
  exact laidMet_laidAll _ (by kernel_rfl) (by kernel_rfl)

theorem law4_any (a : Option Addr) (len cap : Nat) (pick fl stop : Int) (w : World) (h1 : (Lit.int .u16 pick).wf = true) (h2 : (Lit.int .u32 fl).wf = true) (h4 : (Lit.int .u8 stop).wf = true)
    (hz : ∃ p4, Z4 w p4) (he : ∃ es : List Ent, es.length = len ∧ EntsAt w a es) :
    Calls Ybad.prog 3 #[.slice a len cap, .int .u16 pick, .int .u32 fl, .int .u8 stop] w fun e w' => e = .returned (.bool true) ∧ Below w.heap.size w w' := by
  obtain ⟨p4, hz⟩ := hz
  obtain ⟨es, hl, he⟩ := he
  have b1 : 0 ≤ pick ∧ pick ≤ 65535 := by simpa [Lit.wf, IntKind.min, IntKind.max, IntKind.signed, IntKind.bits] using h1
  have b2 : 0 ≤ fl ∧ fl ≤ 4294967295 := by simpa [Lit.wf, IntKind.min, IntKind.max, IntKind.signed, IntKind.bits] using h2
  have b4 : 0 ≤ stop ∧ stop ≤ 255 := by simpa [Lit.wf, IntKind.min, IntKind.max, IntKind.signed, IntKind.bits] using h4
  obtain ⟨pick, rfl⟩ : ∃ m : Nat, pick = m := ⟨pick.toNat, by omega⟩
  obtain ⟨fl, rfl⟩ : ∃ m : Nat, fl = m := ⟨fl.toNat, by omega⟩
  obtain ⟨stop, rfl⟩ : ∃ m : Nat, stop = m := ⟨stop.toNat, by omega⟩
  by_cases h : 1024 < len
  · exact law4_long a len cap _ _ stop w h (by omega)
  · by_cases h0 : len = 0
    · subst h0
      exact law4_none a cap pick fl stop p4 w hz (by omega) (by omega) (by omega)
    · exact law4_some a len cap es pick fl stop p4 w he hl hz (by omega) (by omega) (by omega) (by omega) (by omega)

set_option maxRecDepth 100000 in
set_option maxHeartbeats 4000000 in
theorem lifted4 (os : Os) (started : os.Started) (H : Type) (enc : TypeId × Value → H) :
    ReturnsInHanded {} Ybad.checked os 3 .any (fun w args => (Rows.lawS3222AV4Spec.pre enc Ybad.prog Ybad.f3 [] false w args ∧ laidMetH Ybad.prog Rows.lawS3222AV4Row.laid w) ∧ sizedMet enc Ybad.prog Ybad.f3 (OpenSpec.ofChange Rows.lawS3222AV4Spec) false w args)
      (Rows.lawS3222AV4Spec.post enc Ybad.prog Ybad.f3 false true false false) := by
  refine returnsInHanded_of_change_and (C := Ybad.checked) (X := fun w _ => laidMetH Ybad.prog Rows.lawS3222AV4Row.laid w) (fun _ _ _ hh h => h.of_heap hh) Ybad.own started (by kernel_rfl) Ybad.func3
    (ChangeSpec.witness_shaped (enc := enc) (C := Ybad.checked) (os := os) (X := fun w _ => laidMetH Ybad.prog Rows.lawS3222AV4Row.laid w) false (World.laidAll Ybad.prog os Rows.lawS3222AV4Row.laid) #[.slice none 0 0, .int .u16 0, .int .u32 0, .int .u8 0] 8 (World.laidAll_os _ _ _) (World.shaped_of_ZipB (by kernel_rfl) (by kernel_rfl)) (by kernel_rfl) (by kernel_rfl) (by kernel_rfl) (door_met4 os _)) ?_
  intro W base args ds gs before hval0 hW _ _ hL _
  have hval : ∀ (j : Nat) t v, Ybad.f3.params[j]? = some t → args[j]? = some v → Value.okWide Ybad.prog W .any base t v := hval0
  have hW' := hW
  obtain ⟨p, q, hA0, hV, rfl, _, _⟩ := hW
  have hA : DataW.TrodAll enc Ybad.prog W 0 (fun _ => true) true Ybad.f3.params.toList args.toList ds p := hA0
  rw [Ybad.params3] at hA hval
  obtain ⟨v0, vs0, d0, ds0, p0, q0, hargs, rfl, rfl, h0, r0⟩ := trodAll_cons hA
  obtain ⟨v1, vs1, d1, ds1, p1, q1, rfl, rfl, rfl, h1, r1⟩ := trodAll_cons r0
  obtain ⟨v2, vs2, d2, ds2, p2, q2, rfl, rfl, rfl, h2, r2⟩ := trodAll_cons r1
  obtain ⟨v3, vs3, d3, ds3, p3, q3, rfl, rfl, rfl, h3, r3⟩ := trodAll_cons r2
  obtain ⟨rfl, rfl, rfl⟩ := trodAll_nil r3
  obtain rfl : args = #[v0, v1, v2, v3] := by cases args; simp_all
  obtain ⟨rfl, rfl⟩ := trodVars_none hV
  obtain ⟨a0, len0, cap0, rfl⟩ := okWide_slice Ybad.underlying22 (hval 0 22 v0 rfl rfl)
  obtain ⟨x1, rfl, rfl, rfl, w1⟩ := open_int Ybad.underlying23 (hval 1 23 v1 rfl rfl) h1
  obtain ⟨x2, rfl, rfl, rfl, w2⟩ := open_int Ybad.underlying24 (hval 2 24 v2 rfl rfl) h2
  obtain ⟨x3, rfl, rfl, rfl, w3⟩ := open_int Ybad.underlying5 (hval 3 5 v3 rfl rfl) h3
  have lt0 : ∀ x ∈ p0, x.block < W.heap.size := by obtain ⟨m, hm⟩ := h0; exact DataW.trod_lt m _ _ _ hm
  obtain ⟨hes, hm⟩ := open_nets h0
  clear hA0 hval0
  refine (law4_any a0 len0 cap0 x1 x2 x3 W w1 w2 w3 (z4_of_laid hL) hes).mono ?_
  rintro e W' ⟨rfl, bel⟩
  exact ⟨_, rfl, _, _, _, [], _, [], hW', trodAll_mk1 (shut_bool Ybad.underlying4 _), (trodAll_cons_mk (Below.trod Ybad.laidOut (by kernel_rfl) (of_decide_eq_true (by kernel_rfl)) h0 bel lt0) (trodAll_cons_mk (shut_int Ybad.underlying23 w1) (trodAll_cons_mk (shut_int Ybad.underlying24 w2) (trodAll_cons_mk (shut_int Ybad.underlying5 w3) trodAll_mk0)))), rfl, bel.frame _, fun h => by cases h⟩

theorem over4 : Rows.LawS3222AV4Said :=
  OpenClaim.holds_of_wide 3 Ybad.f3 rfl rfl rfl rfl rfl rfl rfl ⟨rfl, rfl, rfl, rfl, rfl⟩ rfl rfl rfl rfl rfl (by kernel_rfl) Ybad.func3 (by kernel_rfl)
    (of_decide_eq_true (by kernel_rfl)) (by unfold Func.isWrapper; first | (rw [if_pos (by decide +kernel)]; kernel_rfl) | (rw [if_neg (by decide +kernel)]; exact ⟨rfl, rfl⟩))
    (fun os started H enc _ => lifted4 os started H enc)

/-- THE STATEMENT. -/
theorem lawS3222AV4.proved : Rows.LawS3222AV4CardSaid :=
  Claim7.holds_tied_plain_at .later [] [.called, .zero] true (true, "adde6af665b0296e1c1bed2211967476d9f8d1ac2cddb244a92db900ca0fab7e") false
    over4 (fun _ h => by cases h) (by kernel_rfl) (fun _ h => by cases h) lawS3222AV4_row_tie rfl ⟨rfl, rfl⟩ (by kernel_rfl) rfl
    (fun f fn hf hfn => by
      obtain rfl : f = 3 := Option.some.inj ((show Ybad.prog.funcNamed "example.com/answer-knobs/answer-knobs/internal/acl.LawS3222AV4" = some 3 by kernel_rfl).symm.trans hf) |>.symm
      obtain rfl : fn = Ybad.f3 := (Option.some.inj (Ybad.func3.symm.trans hfn)).symm
      exact ⟨by kernel_rfl, fun j t ht => by
        rw [Ybad.params3] at ht
        have h5 : t = 22 ∨ t = 23 ∨ t = 24 ∨ t = 5 := by
          rcases j with _ | _ | _ | _ | j <;> simp at ht <;> simp [← ht]
        rcases h5 with rfl | rfl | rfl | rfl
        · exact (show Ybad.prog.wantsStandIn 22 = false by kernel_rfl)
        · exact (show Ybad.prog.wantsStandIn 23 = false by kernel_rfl)
        · exact (show Ybad.prog.wantsStandIn 24 = false by kernel_rfl)
        · exact (show Ybad.prog.wantsStandIn 5 = false by kernel_rfl)⟩)
    (by kernel_rfl)
end Go.Proofs.YbulkbnryDoor
