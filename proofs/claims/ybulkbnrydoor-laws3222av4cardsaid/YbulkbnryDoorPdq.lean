import Derived.Test.YbulkbnryDoorPdqP
import Derived.Test.YbulkbnryDoorHeapS
import Derived.Test.YbulkbnryDoorRev
import Derived.Test.YbulkbnryDoorPiv
import Derived.Test.YbulkbnryDoorBreak
namespace Go.Proofs.YbulkbnryDoor
open Go.RowKit
set_option linter.unusedSimpArgs false
set_option linter.unusedVariables false

set_option maxRecDepth 100000 in
set_option maxHeartbeats 6400000 in
theorem pdq21 (K : Nat) : ∀ (B off n cap a b lim : Nat) (G : Nat → Int) (w : World), Hid (R64 w w B off n G) → a ≤ b → b ≤ n → n ≤ 100000 → lim ≤ 64 → b - a ≤ K → Hid (Lft a b G) →
    Calls Ybad.prog 21 #[.slice (some ⟨B, off, none⟩) n cap, .int .i64 a, .int .i64 b, .int .i64 lim] w fun e w' => e = .returned (.tuple #[]) ∧ ∃ G', Hid (R64 w w' B off n G') ∧ Hid (Same a b G G') ∧ Hid (Srt a b G') := by
  induction K using Nat.strongRecOn with
  | ind K ih =>
  intro B off n cap a b lim G w h hab hb hn hlim hK hL
  have IH : Hid (∀ (a b lim : Nat) (G : Nat → Int) (w : World), Hid (R64 w w B off n G) → a ≤ b → b ≤ n → lim ≤ 64 → b - a < K → Hid (Lft a b G) →
    Calls Ybad.prog 21 #[.slice (some ⟨B, off, none⟩) n cap, .int .i64 a, .int .i64 b, .int .i64 lim] w fun e w' => e = .returned (.tuple #[]) ∧ ∃ G', Hid (R64 w w' B off n G') ∧ Hid (Same a b G G') ∧ Hid (Srt a b G')) :=
    fun a b lim G w h h1 h2 h3 h4 h5 => ih (b - a) h4 B off n cap a b lim G w h h1 h2 hn h3 (Nat.le_refl _) h5
  clear ih
  go_enter Ybad.func21, Ybad.ntmps21
  go_wp2
  go_loopg [1, 2, 3, 8, 9] (b - a) (fun k va vb vl v8 v9 wr => ∃ (c d lm : Nat) (wb wp : Bool) (G1 : Nat → Int), va = .int .i64 c ∧ vb = .int .i64 d ∧ vl = .int .i64 lm ∧ v8 = .bool wb ∧ v9 = .bool wp ∧ a ≤ c ∧ c ≤ d ∧ d ≤ b ∧ d - c ≤ k ∧ lm ≤ 64 ∧ Hid (R64 w wr B off n G1) ∧ Hid (Same a b G G1) ∧ Hid (Lft c d G1) ∧ Hid (Ends a b c d G1))
  case atStart => exact ⟨a, b, lim, true, true, G, rfl, rfl, rfl, rfl, rfl, Nat.le_refl _, hab, Nat.le_refl _, Nat.le_refl _, hlim, h, Same.refl _ _ _, hL, Ends.start _ _ _⟩
  case round =>
    clear h hL hlim
    obtain ⟨c, d, lm, wb, wp, G1, rfl, rfl, rfl, rfl, rfl, hac, hcd, hdb, hk, hlm, hr, hs, hL, hE⟩ := hrel
    obtain ⟨l, hz⟩ : ∃ l : Nat, (d : Int) - (c : Int) = (l : Int) := ⟨d - c, by omega⟩
    by_cases h12 : l ≤ 12
    · go_wp2_with fail
      go_at_call 35
      refine (insertion35 B off n cap c d G1 _ hr.out.start (by omega) (by omega) hn).mono ?_
      rintro e w2 ⟨rfl, G2, r2, s2, o2⟩
      go_wp2
      (try simp only [Exit.inBlock, Exit.then]); refine bodyPost_ret (results_none rfl _ _ _) rfl ?_
      exact ⟨rfl, G2, hr.out.trans r2.out, hs.out.trans (s2.out.mono hac hdb), hE.out G2 s2.out o2.out⟩
    · by_cases h0 : lm = 0
      · subst h0
        go_wp2_with fail
        go_at_call 36
        refine (heap36 B off n cap c d l hz G1 _ hr.out.start (by omega) (by omega) hn).mono ?_
        rintro e w2 ⟨rfl, G2, r2, s2, o2⟩
        go_wp2
        (try simp only [Exit.inBlock, Exit.then]); refine bodyPost_ret (results_none rfl _ _ _) rfl ?_
        have ed : c + l = d := by omega
        rw [ed] at s2 o2
        exact ⟨rfl, G2, hr.out.trans r2.out, hs.out.trans (s2.out.mono hac hdb), hE.out G2 s2.out o2.out⟩
      · have h0b : ((lm : Int) == 0) = false := by simp; omega
        go_upto_if 35 with fail
        go_cut [3] from 19 to 133 (fun v3 wx => ∃ (m : Nat) (G2 : Nat → Int), v3 = .int .i64 m ∧ m ≤ 64 ∧ Hid (R64 w wx B off n G2) ∧ Hid (Same c d G1 G2))
        case first =>
          cases wb with
          | true =>
            go_wp2
            go_meet
            exact ⟨lm, G1, rfl, hlm, hr, Same.refl _ _ _⟩
          | false =>
            go_wp2_with fail
            go_at_call 37
            refine (break37 B off n cap c d l G1 _ hr.out.start hz (by omega) (by omega) hn).mono ?_
            rintro e w2 ⟨rfl, G2, r2, s2⟩
            go_wp2
            go_meet
            exact ⟨lm - 1, G2, by congr 1; omega, by omega, hr.out.trans r2.out, s2⟩
        case rest =>
          obtain ⟨m3, G2, rfl, hm3, r2, s2⟩ := hcut
          have sE : Hid (Ends a b c d G2) := hE.out.same s2.out
          have sL : Hid (Lft c d G2) := hL.out.same s2.out
          have sS : Hid (Same a b G G2) := hs.out.trans (s2.out.mono hac hdb)
          clear hr hs hL hE s2 hlm h0 h0b
          go_wp2_with fail
          go_at_call 38
          refine (choose38 B off n cap c d l G2 _ r2.out.start hz (by omega) (by omega) hn).mono ?_
          rintro e w3 ⟨⟨p, k, rfl, hcp, hpd, hk2⟩, k3⟩
          have r3 : Hid (R64 w w3 B off n G2) := r2.out.thenKept k3.out
          clear r2 k3
          go_upto_if 50 with fail
          go_cut [11, 12] from 19 to 133 (fun v11 v12 wx => ∃ (q k : Nat) (G3 : Nat → Int), v11 = .int .i64 q ∧ v12 = .int .i64 k ∧ c ≤ q ∧ q < d ∧ Hid (R64 w wx B off n G3) ∧ Hid (Same c d G2 G3))
          case first =>
            by_cases k2 : k = 2
            · subst k2
              go_wp2_with fail
              go_at_call 39
              refine (reverse39 B off n cap c d G2 _ r3.out.start (by omega) (by omega) hn).mono ?_
              rintro e w4 ⟨rfl, G3, r4, s4⟩
              go_wp2
              go_meet
              exact ⟨(d - 1) - (p - c), 1, G3, by congr 1; omega, rfl, by omega, by omega, r3.out.trans r4.out, s4⟩
            · have k2b : ((k : Int) == 2) = false := by simp; omega
              go_wp2
              go_meet
              exact ⟨p, k, G2, rfl, rfl, hcp, hpd, r3, Same.refl _ _ _⟩
          case rest =>
            clear r3
            obtain ⟨q, k, G3, rfl, rfl, hcq, hqd, r3, s3⟩ := hcut
            have tE : Hid (Ends a b c d G3) := sE.out.same s3.out
            have tL : Hid (Lft c d G3) := sL.out.same s3.out
            have tS : Hid (Same a b G G3) := sS.out.trans (s3.out.mono hac hdb)
            clear sE sL sS s3 hcp hpd hk2
            go_upto_region 15 with fail
            go_cut [68] from 19 to 133 (fun v68 wx => (∃ cb : Bool, v68 = .bool cb) ∧ Hid (R64 w wx B off n G3))
            case first =>
              cases wb with
              | false =>
                go_wp2
                go_meet
                exact ⟨⟨_, rfl⟩, r3⟩
              | true =>
                cases wp with
                | false =>
                  go_wp2
                  go_meet
                  exact ⟨⟨_, rfl⟩, r3⟩
                | true =>
                  go_wp2
                  go_meet
                  exact ⟨⟨_, rfl⟩, r3⟩
            case rest =>
              clear r3
              obtain ⟨⟨cb, rfl⟩, r3⟩ := hcut
              go_upto_if 68 with fail
              go_cut [11] from 19 to 133 (fun v11 wx => v11 = .int .i64 q ∧ ∃ G4 : Nat → Int, Hid (R64 w wx B off n G4) ∧ Hid (Same c d G3 G4))
              case first =>
                cases cb with
                | false =>
                  go_wp2
                  go_meet
                  exact ⟨rfl, G3, r3, Same.refl _ _ _⟩
                | true =>
                  go_wp2_with fail
                  go_at_call 40
                  refine (pins40 B off n cap c d G3 _ r3.out.start (by omega) (by omega) hn tL).mono ?_
                  rintro e w4 ⟨f, G4, rfl, r4, s4, o4⟩
                  cases f with
                  | false =>
                    go_wp2
                    go_meet
                    exact ⟨rfl, G4, r3.out.trans r4.out, s4⟩
                  | true =>
                    go_wp2
                    (try simp only [Exit.inBlock, Exit.then]); refine bodyPost_ret (results_none rfl _ _ _) rfl ?_
                    exact ⟨rfl, G4, r3.out.trans r4.out, tS.out.trans (s4.out.mono hac hdb), tE.out G4 s4.out (o4.out trivial)⟩
              case rest =>
                clear r3
                obtain ⟨rfl, G4, r4, s4⟩ := hcut
                have uE : Hid (Ends a b c d G4) := tE.out.same s4.out
                have uL : Hid (Lft c d G4) := tL.out.same s4.out
                have uS : Hid (Same a b G G4) := tS.out.trans (s4.out.mono hac hdb)
                clear tE tL tS s4
                have hcw := r4.out.cell
                have hfw := r4.out.frz
                go_upto_region 17 with fail
                go_cut [87] from 19 to 133 (fun v87 wx => Hid (R64 w wx B off n G4) ∧ ((v87 = .bool true ∧ 0 < c ∧ Hid (¬ G4 (c - 1) < G4 q)) ∨ v87 = .bool false))
                case first =>
                  by_cases hc0 : 0 < c
                  · by_cases hl : G4 (c - 1) < G4 q
                    · go_quiet (first | (go_at_call 41; refine Calls.quiet_of_same (less41 _ _ _)))
                      go_wp2
                      go_meet
                      exact ⟨r4.out.drewN _, .inr rfl⟩
                    · have hd : decide (G4 (c - 1) < G4 q) = false := decide_eq_false hl
                      go_quiet (first | (go_at_call 41; refine Calls.quiet_of_same (less41 _ _ _)))
                      go_wp2
                      go_meet
                      exact ⟨r4.out.drewN _, .inl ⟨rfl, hc0, hl⟩⟩
                  · obtain rfl : c = 0 := by omega
                    go_quiet (first | (go_at_call 41; refine Calls.quiet_of_same (less41 _ _ _)))
                    go_wp2
                    go_meet
                    exact ⟨r4.out.drewN _, .inr rfl⟩
                case rest =>
                  clear r4 hcw hfw
                  obtain ⟨r4, ⟨rfl, hc0, hg⟩ | rfl⟩ := hcut
                  · go_wp2_with fail
                    go_at_call 42
                    refine (partEq42 B off n cap c d q G4 _ r4.out.start hcq hqd (by omega) hn).mono ?_
                    rintro e w5 ⟨m, G5, rfl, hcm, hmd, r5, s5, p5⟩
                    have vv := uE.out.equal ⟨hcm, hmd⟩ uL.out hc0 (Int.not_lt.2 hg.out) s5.out p5.out
                    have vE : Hid (Ends a b m d G5) := vv.1
                    have vL : Hid (Lft m d G5) := vv.2
                    have vS : Hid (Same a b G G5) := uS.out.trans (s5.out.mono hac hdb)
                    clear vv
                    go_wp2
                    go_roundg (d - m)
                    case measure => omega
                    case rel => exact ⟨m, d, m3, wb, wp, G5, rfl, rfl, rfl, rfl, rfl, by omega, by omega, by omega, by omega, hm3, r4.out.trans r5.out, vS, vL, vE⟩
                  · go_wp2_with fail
                    go_at_call 43
                    refine (part43 B off n cap c d q G4 _ r4.out.start hcq hqd (by omega) hn).mono ?_
                    rintro e w5 ⟨m, f, G5, rfl, hcm, hmd, r5, s5, p5⟩
                    have r5' : Hid (R64 w w5 B off n G5) := r4.out.trans r5.out
                    have vE : Hid (Ends a b c d G5) := uE.out.same s5.out
                    have vL : Hid (Lft c d G5) := uL.out.same s5.out
                    have vS : Hid (Same a b G G5) := uS.out.trans (s5.out.mono hac hdb)
                    clear uE uL uS s5 r5 r4
                    by_cases hlr : (m : Int) - (c : Int) < (d : Int) - (m : Int)
                    · go_wp2_with fail
                      go_at_call 21
                      refine (IH.out c m m3 G5 _ r5'.out.start hcm (by omega) hm3 (by omega) (vL.out.cut (by omega))).mono ?_
                      rintro e w6 ⟨rfl, G6, r6, s6, o6⟩
                      have xE : Hid (Ends a b (m + 1) d G6) := vE.out.left ⟨hcm, hmd⟩ p5.out s6.out o6.out
                      have xL : Hid (Lft (m + 1) d G6) := (p5.out.left s6.out).lft
                      have xS : Hid (Same a b G G6) := vS.out.trans (s6.out.mono hac (by omega))
                      go_wp2
                      go_roundg (d - (m + 1))
                      case measure => omega
                      case rel => exact ⟨m + 1, d, m3, _, f, G6, by simp, rfl, rfl, rfl, rfl, by omega, by omega, by omega, by omega, hm3, r5'.out.trans r6.out, xS, xL, xE⟩
                    · go_wp2_with fail
                      go_at_call 21
                      rw [show (m : Int) + 1 = ((m + 1 : Nat) : Int) by omega]
                      refine (IH.out (m + 1) d m3 G5 _ r5'.out.start (by omega) (by omega) hm3 (by omega) p5.out.lft).mono ?_
                      rintro e w6 ⟨rfl, G6, r6, s6, o6⟩
                      have xE : Hid (Ends a b c m G6) := vE.out.right ⟨hcm, hmd⟩ p5.out s6.out o6.out
                      have xL : Hid (Lft c m G6) := (vL.out.same (s6.out.mono (by omega) (Nat.le_refl _))).cut (by omega)
                      have xS : Hid (Same a b G G6) := vS.out.trans (s6.out.mono (by omega) hdb)
                      go_wp2
                      go_roundg (m - c)
                      case measure => omega
                      case rel => exact ⟨c, m, m3, _, f, G6, rfl, rfl, rfl, rfl, rfl, by omega, by omega, by omega, by omega, hm3, r5'.out.trans r6.out, xS, xL, xE⟩
end Go.Proofs.YbulkbnryDoor
