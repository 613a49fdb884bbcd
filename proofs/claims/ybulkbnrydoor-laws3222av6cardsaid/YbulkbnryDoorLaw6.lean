import Derived.Test.YbulkbnryDoorTail6
namespace Go.Proofs.YbulkbnryDoor
open Go.RowKit
set_option linter.unusedSimpArgs false
set_option linter.unusedVariables false

set_option maxRecDepth 100000 in
set_option maxHeartbeats 6400000 in
theorem law6_some (a0 : Option Addr) (n cap : Nat) (es : List Ent) (pick fh fl stop : Nat) (p4 p6 : Addr) (w : World) (hes : Hid (EntsAt w a0 es)) (hen : Hid (es.length = n)) (hzs : Hid (Zs w p4 p6)) (hn : n ≤ 1024) (hn0 : 0 < n) (hpk : pick ≤ 65535) (hfh : fh < 18446744073709551616) (hfl : fl < 18446744073709551616) (hst : stop ≤ 255) :
    Calls Ybad.prog 4 #[.slice a0 n cap, .int .u16 pick, .int .u64 fh, .int .u64 fl, .int .u8 stop] w fun e w' => e = .returned (.bool true) ∧ Below w.heap.size w w' := by
  obtain ⟨i0, hi, hz0, hz1, hz2⟩ := info_parts Ybad.info61
  obtain ⟨i1, hi1, hy0, hy1, hy2⟩ := info_parts Ybad.info68
  obtain ⟨i3, hi3, hx0, hx1, hx2⟩ := info_parts Ybad.info3
  obtain ⟨m, hm⟩ : ∃ m : Nat, Hid (m = pick % n) := ⟨_, rfl⟩
  have hmn : m < n := by rw [hm.out]; exact Nat.mod_lt _ hn0
  obtain ⟨em, hem⟩ : ∃ e, Hid (es[m]? = some e) := ⟨es[m]'(by rw [hen.out]; exact hmn), List.getElem?_eq_getElem _⟩
  obtain ⟨b0, off, rfl, hb0, c0, c1, c2, c3⟩ := (hes.out m em hem.out).at'
  have hmi : ((pick : Int)).tmod (n : Int) = (m : Int) := by rw [hm.out]; rw [Int.tmod_eq_emod_of_nonneg (by omega)]; omega
  have hmi2 : ((pick : Int)) % (n : Int) = (m : Int) := by rw [hm.out]; omega
  obtain ⟨x, hxx, hx⟩ := xor64 em.hi fh
  obtain ⟨y, hyy, hy⟩ := xor64 em.lo fl
  go_enter Ybad.func4, Ybad.ntmps4
  go_wp2_with fail
  clear c0 c1 c2 c3 hmi hmi2 hxx hyy
  obtain ⟨TB, hTB⟩ : ∃ TB, Hid (w.heap.size + 1 + 1 = TB) := ⟨_, rfl⟩
  obtain ⟨W0, hW0⟩ : ∃ W0, Hid ((((w.alloc (.cells #[.int .u8 stop] 5)).alloc (.cells #[.int .u64 em.hi, .int .u64 em.lo, .int .u8 em.bits, .int .u16 em.place] 56)).alloc (.cells #[.slice none 0 0, .slice none 0 0] 31)) = W0) := ⟨_, rfl⟩
  have hst0 : Hid (OSt w W0 TB w.heap.size stop [] (.slice none 0 0) []) := by
    show OSt w W0 TB w.heap.size stop [] (.slice none 0 0) []
    rw [← hW0.out, ← hTB.out]
    refine ⟨(((Below.refl _ _).alloc (Nat.le_refl _) _).alloc (by simp) _).alloc (by simp; omega) _, by omega, tag_last _ _ _ _ (by simp), ⟨_, by go_simp, World.ownsRow_nil _ _ _ _⟩, by go_simp, by simp, World.ownsRow_nil _ _ _ _, tag_old (by simp; omega) (tag_old (by simp) (tag_last _ _ _ _ rfl)), by go_simp⟩
  rw [hW0.out, hTB.out]
  clear hW0
  go_loopw [15, 16] (fun vw vi wr => ∃ (q : Nat) (lv : List Lev) (wl : List Int), q ≤ 129 ∧ lv.length + q ≤ 129 ∧ vi = .int .i64 ((q : Int) - 1) ∧ Hid (OSt w wr TB w.heap.size stop lv vw wl) ∧ Hid (wl = found x y lv)) (fun _ vi _ => (intOf vi + 1).toNat)
  case atStart => exact ⟨129, [], [], Nat.le_refl _, by simp, rfl, hst0, rfl⟩
  case round =>
    clear hst0
    obtain ⟨q, lv, wl, hq, hlq, rfl, host, hwf⟩ := hrel
    obtain ⟨wo, rfl⟩ : ∃ wo, wo = wr := ⟨wr, rfl⟩
    by_cases hq0 : q = 0
    · subst hq0
      rw [show (((0 : Nat) : Int) - 1) = -1 from rfl]
      have sc := host.out.sc
      have sl := host.out.sg.lt
      have hwl : wl.length ≤ 129 := by
        have h := List.length_filterMap_le (spot x y) lv
        rw [hwf.out]; unfold found; omega
      have hcut := cut_any _ wl.length w.heap.size _ stop wo host.out.want (by omega) hst
      go_wp2_with fail
      refine hcut.mono ?_
      rintro e w' ⟨rfl, hw'⟩
      obtain rfl := hw'.symm
      clear hcut sc
      go_wp2_with fail
      obtain ⟨V0, hV0⟩ : ∃ V0, Hid (((wo.alloc (.cells #[.slice none 0 0] 32)).alloc (.cells #[.int .u8 0, .int .u8 0, .int .u8 0, .int .u8 0, .int .u8 0, .int .u8 0, .int .u8 0, .int .u8 0, .int .u8 0, .int .u8 0, .int .u8 0, .int .u8 0, .int .u8 0, .int .u8 0, .int .u8 0, .int .u8 0] 69)) = V0) := ⟨_, rfl⟩
      have kV : Hid (Kept [] wo V0) := by show Kept [] wo V0; rw [← hV0.out]; exact ((Kept.refl _ _).alloc _).alloc _
      have tL : Hid (Tag V0 wo.heap.size 32) := by show Tag V0 wo.heap.size 32; rw [← hV0.out]; exact tag_old (by simp) (tag_last _ _ _ _ rfl)
      have cL : Hid (V0.cell? ⟨wo.heap.size, 0, none⟩ = some (.slice none 0 0)) := by show V0.cell? _ = _; rw [← hV0.out]; go_simp
      have fL : Hid (V0.frozen? ⟨wo.heap.size, 0, none⟩ = false) := by show V0.frozen? _ = _; rw [← hV0.out]; go_simp
      have s0 : V0.heap.size = wo.heap.size + 2 := by rw [← hV0.out]; simp
      have RM0 : Hid (Room V0 (wo.heap.size + 1) 0) := by
        show Room V0 _ _
        have := zero16_room (wo.alloc (.cells #[.slice none 0 0] 32)) 0 (.inl rfl); rw [← hV0.out]; simpa using this
      have RM8 : Hid (Room V0 (wo.heap.size + 1) 8) := by
        show Room V0 _ _
        have := zero16_room (wo.alloc (.cells #[.slice none 0 0] 32)) 8 (.inr rfl); rw [← hV0.out]; simpa using this
      rw [hV0.out]
      clear hV0
      have l1 : wo.heap.size + 1 < V0.heap.size := by omega
      have rd0 : Hid (Room V0.drew (wo.heap.size + 1) 0) := ⟨RM0.out.r0, RM0.out.r1, RM0.out.r2, RM0.out.r3, RM0.out.r4, RM0.out.r5, RM0.out.r6, RM0.out.r7, RM0.out.z0, RM0.out.z1, RM0.out.z2, RM0.out.z3, RM0.out.z4, RM0.out.z5, RM0.out.z6, RM0.out.z7⟩
      have ld : wo.heap.size + 1 < V0.drew.heap.size := l1
      go_region_held3 (fun W => True) (first | trivial | (simp; done))
        (first
        | (go_at_call 19; refine (put19k (wo.heap.size + 1) 0 8 16 x V0.drew hx (by omega) ld rd0.out).mono ?_; rintro e w1 ⟨rfl, pt⟩))
      have k1 : Hid (Kept [wo.heap.size + 1] V0 w1) := ((Kept.refl _ V0).drew).trans pt.out.kept
      have rm1 : Hid (Room w1 (wo.heap.size + 1) 8) := Room.after pt.out (o := 0) (w := V0.drew) ⟨RM8.out.r0, RM8.out.r1, RM8.out.r2, RM8.out.r3, RM8.out.r4, RM8.out.r5, RM8.out.r6, RM8.out.r7, RM8.out.z0, RM8.out.z1, RM8.out.z2, RM8.out.z3, RM8.out.z4, RM8.out.z5, RM8.out.z6, RM8.out.z7⟩ (by omega)
      have bx1 : Hid (Bytes w1 (wo.heap.size + 1) 0 x) := pt.out.bytes
      clear rd0 ld RM8 RM0 pt
      have rd8 : Hid (Room w1.drew (wo.heap.size + 1) 8) := ⟨rm1.out.r0, rm1.out.r1, rm1.out.r2, rm1.out.r3, rm1.out.r4, rm1.out.r5, rm1.out.r6, rm1.out.r7, rm1.out.z0, rm1.out.z1, rm1.out.z2, rm1.out.z3, rm1.out.z4, rm1.out.z5, rm1.out.z6, rm1.out.z7⟩
      have bx9 : Hid (Bytes w1.drew (wo.heap.size + 1) 0 x) := ⟨bx1.out.c0, bx1.out.c1, bx1.out.c2, bx1.out.c3, bx1.out.c4, bx1.out.c5, bx1.out.c6, bx1.out.c7⟩
      have ld1 : wo.heap.size + 1 < w1.drew.heap.size := Nat.lt_of_lt_of_le l1 k1.out.size
      go_wp2_with fail
      go_region_held3 (fun W => True) (first | trivial | (simp; done))
        (first
        | (go_at_call 19; refine (put19k (wo.heap.size + 1) 8 8 8 y w1.drew hy (by omega) ld1 rd8.out).mono ?_; rintro e w2 ⟨rfl, pt⟩))
      have by2 : Hid (Bytes w2 (wo.heap.size + 1) 8 y) := pt.out.bytes
      have bx2 : Hid (Bytes w2 (wo.heap.size + 1) 0 x) := Bytes.after pt.out bx9.out (by omega)
      have k2 : Hid (Kept [wo.heap.size + 1] w1 w2) := ((Kept.refl _ w1).drew).trans pt.out.kept
      have kk2 : Hid (Kept [] wo w2) := (kV.out.then k1.out (by simp)).then k2.out (by simp)
      have k02 : Hid (Kept [wo.heap.size + 1] V0 w2) := k1.out.trans k2.out
      have bw2 : Hid (Below w.heap.size w w2) := host.out.below.trans (kk2.out.below host.out.below.size (by simp))
      have zs2 : Hid (Zs w2 p4 p6) := hzs.out.below bw2.out (Nat.le_refl _)
      have lt2 : wo.heap.size + 1 < w2.heap.size := Nat.lt_of_lt_of_le l1 k02.out.size
      obtain ⟨a0, a1, a2, a3, a4, a5, a6, a7⟩ := bx2.out
      obtain ⟨a8, a9, a10, a11, a12, a13, a14, a15⟩ := by2.out
      simp only [Nat.zero_add, Nat.reduceAdd] at a1 a2 a3 a4 a5 a6 a7 a9 a10 a11 a12 a13 a14 a15
      clear rd8 bx9 ld1 rm1 bx1 pt bx2 by2 k1 k2
      go_wp2_with fail
      refine (from16 x y p6 w2 hx hy zs2.out.l2 zs2.out.c2).mono ?_
      rintro e w3 ⟨rfl, k3⟩
      have kk3 : Hid (Kept [] wo w3) := kk2.out.trans k3.out
      have ho3 : Hid _ := host.out.kept kk3.out
      have zs3 : Hid (Zs w3 p4 p6) := zs2.out.kept k3.out
      have l0 : wo.heap.size < V0.heap.size := by omega
      have l02 : wo.heap.size < w2.heap.size := by omega
      have tL3 : Hid (Tag w3 wo.heap.size 32) := (tL.out.kept k02.out (by simp)).kept k3.out (by simp)
      have cL3 : Hid (w3.cell? ⟨wo.heap.size, 0, none⟩ = some (.slice none 0 0)) := (k3.out.cell _ 0 l02 (by simp)).trans ((k02.out.cell _ 0 l0 (by simp)).trans cL.out)
      have fL3 : Hid (w3.frozen? ⟨wo.heap.size, 0, none⟩ = false) := (k3.out.frozen _ 0 l02 (by simp)).trans ((k02.out.frozen _ 0 l0 (by simp)).trans fL.out)
      have hh := hold_all x y p4 p6 w w3 TB w.heap.size wo.heap.size stop lv _ wl hx hy zs3.out ho3.out tL3.out cL3.out fL3.out (by omega) hst
      clear a0 a1 a2 a3 a4 a5 a6 a7 a8 a9 a10 a11 a12 a13 a14 a15 kk2 k02 zs2 bw2 k3 cL fL tL kV cL3 fL3 zs3
      go_wp2_with fail
      refine hh.mono ?_
      rintro e w4 ⟨rfl, hlg, hhd⟩
      obtain ⟨vl, hcl, hol⟩ := hlg.out.c
      have ll4 := hlg.out.ll
      have heq := equal_same w3.heap.size w.heap.size vl _ (cutL (found x y lv) stop) wl (cutN wl.length stop) w4 hol (owns_held ho3.out.want hhd.out (fun g hg => ⟨(ho3.out.want.lt g hg).2, by have := Tag.ne (owns_tag ho3.out.want g hg) tL3.out (by decide); simpa using this⟩)) (cutN_le _ _) (by rw [← hwf.out]; exact cutL_take _ _) (by omega)
      have hbl : Hid (Below w.heap.size w w4) := ho3.out.below.trans (hhd.out.below ho3.out.below.size (by simp; omega))
      clear hh hol hlg hhd
      go_wp2_with fail
      refine heq.mono ?_
      rintro e w5 ⟨rfl, q, rfl⟩
      have hbq : Hid (Below w.heap.size w (w4.drewN q)) := hbl.out.trans (((Kept.refl [] w4).drewN q).below hbl.out.size (by simp))
      go_wp2
      go_ret
      exact ⟨rfl, hbq.out⟩
    · obtain ⟨b, rfl⟩ : ∃ b, q = b + 1 := ⟨q - 1, by omega⟩
      rw [show (((b + 1 : Nat) : Int) - 1) = (b : Int) from by omega]
      obtain ⟨ah, al, hm6⟩ : ∃ ah al, Hid (m6 x y b = (ah, al)) := ⟨_, _, rfl⟩
      have hmk := mask6_any x y b wo (by omega)
      rw [hm6.out] at hmk
      simp only at hmk
      have eb : 0 ≤ (b : Int) := by omega
      go_wp2_with fail
      refine hmk.mono ?_
      rintro e w' ⟨rfl, hw'⟩
      obtain rfl := hw'.symm
      clear hmk
      go_wp2
      go_loopw [17, 18, 19, 69] (fun v vb vf vi ws => ∃ (k : Nat) (ns : List Net) (bo : Option Int), k ≤ n ∧ ns.length ≤ k ∧ vi = .int .i64 k ∧ vb = .int .i64 (bo.getD 0) ∧ vf = .bool bo.isSome ∧ Hid (ISt wo ws b es ah al k v ns bo)) (fun _ _ _ vi _ => n - (intOf vi).toNat)
      case atStart => exact ⟨0, [], none, Nat.zero_le _, by simp, rfl, rfl, rfl, ⟨World.ownsRow_nil _ _ _ _, rfl, rfl, Kept.refl _ _⟩⟩
      case round =>
        obtain ⟨k, ns, bo, hk, hnk, rfl, rfl, rfl, hist⟩ := hrel
        by_cases hlt : k < n
        · obtain ⟨⟨eh, el, ebt, ep⟩, hel⟩ : ∃ e, Hid (es[k]? = some e) := ⟨es[k]'(by rw [hen.out]; exact hlt), List.getElem?_eq_getElem _⟩
          have hbw : Hid (Below w.heap.size w wr) := host.out.below.trans (hist.out.kept.below host.out.below.size (by simp))
          have hea := (hes.out.kept hbw.out) k _ hel.out
          have HB : Hid _ := build_take (b := b) hel.out
          obtain ⟨bb, oo, ha1, hbb, d0, d1, d2, d3⟩ := hea.at'
          have hb255 : ebt ≤ 255 := hea.b
          have hp : ep ≤ 65535 := hea.p
          simp only at d0 d1 d2 d3
          clear hea
          obtain ⟨rfl, rfl⟩ : b0 = bb ∧ off = oo := by simpa using ha1
          clear ha1
          by_cases hbb2 : ebt % 129 = b
          · have hbi : (ebt : Int) % 129 = (b : Int) := by omega
            obtain ⟨gh, gl, hg6⟩ : ∃ gh gl, Hid (m6 eh el b = (gh, gl)) := ⟨_, _, rfl⟩
            have HB2 : Hid (build b (es.take (k + 1)) = build b (es.take k) ++ [⟨gh, gl, (ep : Int) - 1⟩]) := by
              show build b (es.take (k + 1)) = _
              rw [HB.out, if_pos hbb2]; simp only [netOf]; rw [hg6.out]
            have hmk := fun W => mask6_any eh el b W (by omega)
            rw [hg6.out] at hmk
            simp only at hmk
            have hsz := hist.out.kept.size
            go_wp2_with (first
              | (go_at_call 12; refine (hmk _).mono ?_; rintro e w' ⟨rfl, hw'⟩; obtain rfl := hw'.symm)
              | (at_builtin; refine wpList_append_own _ rfl (.tmp 92) (.tmp 97) 57 rfl wo.heap.size 61 i0 (.agg #[.int .u64 0, .int .u64 0, .int .i64 0]) 3 24 Ybad.underlying57 hi hz0 hz1 hz2 rfl (by decide) _ _ _ rfl ((hist.out.own.alloc _).alloc _) ⟨wr.heap.size + 1, 0, none⟩ 1 1 [.int .u64 gh, .int .u64 gl, .int .i64 ((ep : Int) - 1)] rfl rfl (news3 _ _ _ _ _ _ (by simp)) (by intro u hu; simp at hu; rcases hu with rfl | rfl | rfl <;> rfl) (by unfold maxLen; omega) (by omega) (by simp; omega) ?_))
            intro v1 w1 hown1 hgrow1 hne1
            have hrow := fun j hj => (hist.out.own.lt j hj).1
            have kk : Hid (Kept [] wo w1) := ((hist.out.kept.alloc _).alloc _).grown hgrow1 (fun j hj => .inr (hrow j hj))
            have hnx : Hid (ISt wo w1 b es ah al (k + 1) v1 (ns ++ [⟨gh, gl, (ep : Int) - 1⟩]) (best1 ah al bo ⟨gh, gl, (ep : Int) - 1⟩)) := hist.out.add hown1 kk.out HB2.out
            clear hown1 hgrow1 hne1 hrow kk HB HB2 hist hmk d0 d1 d2 d3
            by_cases e1 : gh = ah
            · by_cases e2 : gl = al
              · subst e1; subst e2
                cases bo with
                | none =>
                  have hbe : best1 gh gl none ⟨gh, gl, (ep : Int) - 1⟩ = some ((ep : Int) - 1) := by simp [best1, isIt]
                  rw [hbe] at hnx
                  go_wp2
                  go_roundw
                  case rel => exact ⟨k + 1, _, _, hlt, by simp; omega, by go_num, rfl, rfl, hnx.out⟩
                  case measure => simp [intOf]; omega
                | some p =>
                  by_cases e3 : (ep : Int) - 1 < p
                  · have hbe : best1 gh gl (some p) ⟨gh, gl, (ep : Int) - 1⟩ = some ((ep : Int) - 1) := by simp [best1, isIt, e3]
                    rw [hbe] at hnx
                    simp only [Option.isSome_some, Option.getD_some]
                    go_wp2
                    go_roundw
                    case rel => exact ⟨k + 1, _, _, hlt, by simp; omega, by go_num, rfl, rfl, hnx.out⟩
                    case measure => simp [intOf]; omega
                  · have hbe : best1 gh gl (some p) ⟨gh, gl, (ep : Int) - 1⟩ = some p := by simp [best1, isIt]; omega
                    rw [hbe] at hnx
                    simp only [Option.isSome_some, Option.getD_some]
                    go_wp2
                    go_roundw
                    case rel => exact ⟨k + 1, _, _, hlt, by simp; omega, by go_num, rfl, rfl, hnx.out⟩
                    case measure => simp [intOf]; omega
              · have hbe : best1 ah al bo ⟨gh, gl, (ep : Int) - 1⟩ = bo := by simp [best1, isIt, e2]
                rw [hbe] at hnx
                subst e1
                go_wp2
                go_roundw
                case rel => exact ⟨k + 1, _, _, hlt, by simp; omega, by go_num, rfl, rfl, hnx.out⟩
                case measure => simp [intOf]; omega
            · have hbe : best1 ah al bo ⟨gh, gl, (ep : Int) - 1⟩ = bo := by simp [best1, isIt, e1]
              rw [hbe] at hnx
              go_wp2
              go_roundw
              case rel => exact ⟨k + 1, _, _, hlt, by simp; omega, by go_num, rfl, rfl, hnx.out⟩
              case measure => simp [intOf]; omega
          · have hnb : ¬ ((ebt : Int) % 129 = (b : Int)) := by omega
            have HE : Hid (build b (es.take (k + 1)) = build b (es.take k)) := by
              show build b (es.take (k + 1)) = _
              rw [HB.out, if_neg hbb2]; simp
            have hnx : Hid (ISt wo (wr.alloc (.cells #[.int .u64 eh, .int .u64 el, .int .u8 ebt, .int .u16 ep] 56)) b es ah al (k + 1) _ ns bo) := hist.out.skip ((Kept.refl _ _).alloc _) HE.out
            go_wp2
            go_roundw
            case rel => exact ⟨k + 1, ns, bo, hlt, by omega, by go_num, rfl, rfl, hnx.out⟩
            case measure => simp [intOf]; omega
        · obtain rfl : k = n := by omega
          have hbo : Hid (bo = best ah al ns) := hist.out.boe
          have host2 : Hid _ := host.out.kept hist.out.kept
          have hown := hist.out.own
          rcases hown.2 with ⟨hv, h0⟩ | ⟨g, cp, cur, hv, hgb, hcur, hcap, _⟩
          · subst hv
            obtain rfl : ns = [] := List.eq_nil_of_length_eq_zero h0
            obtain rfl : bo = none := hbo.out
            clear hown
            go_wp2
            go_roundw
            case rel => exact ⟨b, lv, wl, by omega, by omega, by go_num, host2.out, hwf.out⟩
            case measure => simp [intOf]
          · subst hv
            by_cases h0 : ns.length = 0
            · obtain rfl : ns = [] := List.eq_nil_of_length_eq_zero h0
              obtain rfl : bo = none := hbo.out
              clear hown hcur
              go_wp2
              go_roundw
              case rel => exact ⟨b, lv, wl, by omega, by omega, by go_num, host2.out, hwf.out⟩
              case measure => simp [intOf]
            · have hrow : Hid (Row6 wr g ns) := own_row6 hown rfl
              have hsrt := sort6_any g cp ns wr hrow.out (by omega)
              clear hown hcur hrow host2
              go_wp2_with fail
              refine hsrt.mono ?_
              rintro e w2 ⟨rfl, hrow2, hk2⟩
              have kk2 : Hid (Kept [] wo w2) := hist.out.kept.then hk2 (fun z hz => by simp at hz; subst hz; exact .inr hgb)
              have host3 : Hid _ := host.out.kept kk2.out
              have HR2 : Hid _ := hrow2
              clear hk2 hsrt hrow2 kk2
              obtain ⟨vv, tc, tov⟩ := host3.out.tc
              have tz := host3.out.tz
              have tl := host3.out.tl
              have hbw := host3.out.below.size
              go_wp2_with (first
                | (at_builtin; refine wpList_append_own _ rfl (.tmp 125) (.tmp 130) 29 rfl w.heap.size 68 i1 (.agg #[.int .u8 0, .slice none 0 0]) 2 32 Ybad.underlying29 hi1 hy0 hy1 hy2 rfl (by decide) _ _ _ rfl (tov.alloc _) ⟨w2.heap.size, 0, none⟩ 1 1 [.int .u8 b, .slice (some ⟨g, 0, none⟩) ns.length cp] rfl rfl (news2 _ _ _ _ _ (by simp)) (by intro u hu; simp at hu; rcases hu with rfl | rfl <;> rfl) (by unfold maxLen; omega) (by omega) (by simp; omega) ?_))
              intro v1 w3 hown1 hgrow1 _
              obtain ⟨gg, cg, rfl⟩ : ∃ gg cg, v1 = .slice (some ⟨gg, 0, none⟩) (lv.length + 1) cg := by
                rcases hown1.2 with ⟨e, h0⟩ | ⟨g, cap, cur, rfl, hb, _⟩
                · exact absurd h0 (by omega)
                · exact ⟨g, cap, rfl⟩
              obtain ⟨host4, c1, z1⟩ := host3.out.push (l := ⟨b, g, ns.length, cp, sorted6 ns⟩) tc hown1 hgrow1 ⟨HR2.out, sorted6_len ns, asc_sorted6 ns, by show b ≤ 128; omega, by show ns.length ≤ 1024; omega⟩
              have HO4 : Hid _ := host4
              have tl3 : TB < w3.heap.size := by have := hgrow1.size; simp at this; omega
              have hb3 : w.heap.size ≤ w3.heap.size := by have := hgrow1.size; simp at this; omega
              have hwl : wl.length ≤ 129 := by
                have h := List.length_filterMap_le (spot x y) lv
                rw [hwf.out]; unfold found; omega
              clear host4 host3 hown1 hgrow1 tc tov tz HR2 hist
              cases bo with
              | none =>
                have hwf2 : Hid (wl = found x y (lv ++ [⟨b, g, ns.length, cp, sorted6 ns⟩])) := by
                  show wl = _
                  rw [found_snoc, spot_new hm6.out hbo.out, ← hwf.out]; simp
                go_wp2
                go_roundw
                case rel => exact ⟨b, _, wl, by omega, by simp; omega, by go_num, HO4.out, hwf2.out⟩
                case measure => simp [intOf]
              | some p =>
                have hwf2 : Hid (wl ++ [p] = found x y (lv ++ [⟨b, g, ns.length, cp, sorted6 ns⟩])) := by
                  show wl ++ [p] = _
                  rw [found_snoc, spot_new hm6.out hbo.out, ← hwf.out]; simp
                simp only [Option.isSome_some, Option.getD_some]
                go_wp2_with (first
                  | (at_builtin; refine wpList_append_own _ rfl (.tmp 135) (.tmp 137) 32 rfl w.heap.size 3 i3 (.int .i64 0) 1 8 Ybad.underlying32 hi3 hx0 hx1 hx2 rfl (by decide) _ _ _ rfl (HO4.out.want.alloc _) ⟨w3.heap.size, 0, none⟩ 1 1 [.int .i64 p] rfl rfl (news1 _ _ _ _ (by simp)) (by intro u hu; simp at hu; subst hu; rfl) (by unfold maxLen; omega) (by omega) (by simp; omega) ?_))
                intro v2 w5 hown2 hgrow2 _
                have HO5 : Hid _ := HO4.out.wanted hown2 hgrow2
                clear hown2 hgrow2 HO4 c1 z1
                go_wp2
                go_roundw
                case rel => exact ⟨b, _, wl ++ [p], by omega, by simp; omega, by go_num, HO5.out, hwf2.out⟩
                case measure => simp [intOf]
end Go.Proofs.YbulkbnryDoor
