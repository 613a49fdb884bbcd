import Derived.Test.YbulkbnryDoorState4
namespace Go.Proofs.YbulkbnryDoor
open Go.RowKit
set_option linter.unusedSimpArgs false
set_option linter.unusedVariables false

set_option maxRecDepth 100000 in
set_option maxHeartbeats 6400000 in
theorem law4_some (a0 : Option Addr) (n cap : Nat) (es : List Ent) (pick fl stop : Nat) (p4 : Addr) (w : World) (hes : Hid (EntsAt w a0 es)) (hen : Hid (es.length = n)) (hzs : Hid (Z4 w p4)) (hn : n ≤ 1024) (hn0 : 0 < n) (hpk : pick ≤ 65535) (hfl : fl < 4294967296) (hst : stop ≤ 255) :
    Calls Ybad.prog 3 #[.slice a0 n cap, .int .u16 pick, .int .u32 fl, .int .u8 stop] w fun e w' => e = .returned (.bool true) ∧ Below w.heap.size w w' := by
  obtain ⟨i0, hi, hz0, hz1, hz2⟩ := info_parts Ybad.info35
  obtain ⟨i1, hi1, hy0, hy1, hy2⟩ := info_parts Ybad.info39
  obtain ⟨i3, hi3, hx0, hx1, hx2⟩ := info_parts Ybad.info3
  obtain ⟨m, hm⟩ : ∃ m : Nat, Hid (m = pick % n) := ⟨_, rfl⟩
  have hmn : m < n := by rw [hm.out]; exact Nat.mod_lt _ hn0
  obtain ⟨em, hem⟩ : ∃ e, Hid (es[m]? = some e) := ⟨es[m]'(by rw [hen.out]; exact hmn), List.getElem?_eq_getElem _⟩
  obtain ⟨b0, off, rfl, hb0, c0, c1, c2⟩ := (hes.out m em hem.out).at'
  have hmi : ((pick : Int)).tmod (n : Int) = (m : Int) := by rw [hm.out]; rw [Int.tmod_eq_emod_of_nonneg (by omega)]; omega
  have hmi2 : ((pick : Int)) % (n : Int) = (m : Int) := by rw [hm.out]; omega
  obtain ⟨x, hxx, hx⟩ := xor32 em.addr fl
  go_enter Ybad.func3, Ybad.ntmps3
  go_wp2_with fail
  clear c0 c1 c2 hmi hmi2 hxx
  obtain ⟨TB, hTB⟩ : ∃ TB, Hid (w.heap.size + 1 = TB) := ⟨_, rfl⟩
  obtain ⟨W0, hW0⟩ : ∃ W0, Hid (((w.alloc (.cells #[.int .u8 stop] 5)).alloc (.cells #[.slice none 0 0, .slice none 0 0] 31)) = W0) := ⟨_, rfl⟩
  have hst0 : Hid (OSt w W0 TB w.heap.size stop [] (.slice none 0 0) []) := by
    show OSt w W0 TB w.heap.size stop [] (.slice none 0 0) []
    rw [← hW0.out, ← hTB.out]
    refine ⟨((Below.refl _ _).alloc (Nat.le_refl _) _).alloc (by simp) _, by omega, tag_last _ _ _ _ (by simp), ⟨_, by go_simp, World.ownsRow_nil _ _ _ _⟩, by go_simp, by simp, World.ownsRow_nil _ _ _ _, tag_old (by simp) (tag_last _ _ _ _ rfl), by go_simp⟩
  rw [hW0.out, hTB.out]
  clear hW0
  go_loopw [11, 12] (fun vw vi wr => ∃ (q : Nat) (lv : List Lev4) (wl : List Int), q ≤ 33 ∧ lv.length + q ≤ 33 ∧ vi = .int .i64 ((q : Int) - 1) ∧ Hid (OSt w wr TB w.heap.size stop lv vw wl) ∧ Hid (wl = found x lv)) (fun _ vi _ => (intOf vi + 1).toNat)
  case atStart => exact ⟨33, [], [], Nat.le_refl _, by simp, rfl, hst0, rfl⟩
  case round =>
    clear hst0
    obtain ⟨q, lv, wl, hq, hlq, rfl, host, hwf⟩ := hrel
    obtain ⟨wo, rfl⟩ : ∃ wo, wo = wr := ⟨wr, rfl⟩
    by_cases hq0 : q = 0
    · subst hq0
      rw [show (((0 : Nat) : Int) - 1) = -1 from rfl]
      have sc := host.out.sc
      have sl := host.out.sg.lt
      have hwl : wl.length ≤ 33 := by
        have h := List.length_filterMap_le (spot x) lv
        rw [hwf.out]; unfold found; omega
      have hcut := cut_any _ wl.length w.heap.size _ stop wo host.out.want (by omega) hst
      go_wp2_with fail
      refine hcut.mono ?_
      rintro e w' ⟨rfl, hw'⟩
      obtain rfl := hw'.symm
      clear hcut sc
      obtain ⟨lo, hlo⟩ : ∃ lo : Nat, Hid (lo = 281470681743360 + x) := ⟨_, rfl⟩
      have hb0 : x / 16777216 ≤ 255 := by omega
      have hb1 : x / 65536 % 256 ≤ 255 := by omega
      have hb2 : x / 256 % 256 ≤ 255 := by omega
      have hb3 : x % 256 ≤ 255 := by omega
      go_wp2_with fail
      obtain ⟨V0, hV0⟩ : ∃ V0, Hid (wo.alloc (.cells #[.slice none 0 0] 32) = V0) := ⟨_, rfl⟩
      have kV : Hid (Kept [] wo V0) := by show Kept [] wo V0; rw [← hV0.out]; exact (Kept.refl _ _).alloc _
      have tL : Hid (Tag V0 wo.heap.size 32) := by show Tag V0 wo.heap.size 32; rw [← hV0.out]; exact tag_last _ _ _ _ rfl
      have cL : Hid (V0.cell? ⟨wo.heap.size, 0, none⟩ = some (.slice none 0 0)) := by show V0.cell? _ = _; rw [← hV0.out]; go_simp
      have fL : Hid (V0.frozen? ⟨wo.heap.size, 0, none⟩ = false) := by show V0.frozen? _ = _; rw [← hV0.out]; go_simp
      have s0 : V0.heap.size = wo.heap.size + 1 := by rw [← hV0.out]; simp
      rw [hV0.out]
      clear hV0
      have bw0 : Hid (Below w.heap.size w V0) := host.out.below.trans (kV.out.below host.out.below.size (by simp))
      have zs0 : Hid (Z4 V0 p4) := hzs.out.below bw0.out (Nat.le_refl _)
      rw [show ((x : Int) / 16777216) = ((x / 16777216 : Nat) : Int) by omega, show ((x : Int) / 65536 % 256) = ((x / 65536 % 256 : Nat) : Int) by omega, show ((x : Int) / 256 % 256) = ((x / 256 % 256 : Nat) : Int) by omega, show ((x : Int) % 256) = ((x % 256 : Nat) : Int) by omega]
      refine (from4 (x / 16777216) (x / 65536 % 256) (x / 256 % 256) (x % 256) lo p4 V0 hb0 hb1 hb2 hb3 (by show lo = _; rw [hlo.out]; omega) zs0).mono ?_
      rintro e w3 ⟨rfl, k3⟩
      obtain ⟨w4, hw4⟩ : ∃ w4, Hid (w3.alloc (.cells #[.int .u64 0, .int .u64 lo, .pointer (some p4)] 48) = w4) := ⟨_, rfl⟩
      have k34 : Hid (Kept [] w3 w4) := by show Kept [] w3 w4; rw [← hw4.out]; exact (Kept.refl _ _).alloc _
      have k04 : Hid (Kept [] V0 w4) := k3.out.trans k34.out
      have kk4 : Hid (Kept [] wo w4) := kV.out.trans k04.out
      have ho4 : Hid _ := host.out.kept kk4.out
      have zs4 : Hid (Z4 w4 p4) := zs0.out.kept k04.out
      have l0 : wo.heap.size < V0.heap.size := by omega
      have tL4 : Hid (Tag w4 wo.heap.size 32) := tL.out.kept k04.out (by simp)
      have cL4 : Hid (w4.cell? ⟨wo.heap.size, 0, none⟩ = some (.slice none 0 0)) := (k04.out.cell _ 0 l0 (by simp)).trans cL.out
      have fL4 : Hid (w4.frozen? ⟨wo.heap.size, 0, none⟩ = false) := (k04.out.frozen _ 0 l0 (by simp)).trans fL.out
      have hh := hold_all x lo p4 w w4 TB w.heap.size wo.heap.size stop lv _ wl hx hlo.out zs4.out ho4.out tL4.out cL4.out fL4.out (by omega) hst
      clear k3 k34 k04 zs0 bw0 cL fL tL kV cL4 fL4 zs4 hb0 hb1 hb2 hb3
      go_wp2_with fail
      rw [hw4.out]
      refine hh.mono ?_
      rintro e w5 ⟨rfl, hlg, hhd⟩
      obtain ⟨vl, hcl, hol⟩ := hlg.out.c
      have ll5 := hlg.out.ll
      have heq := equal_same w4.heap.size w.heap.size vl _ (cutL (found x lv) stop) wl (cutN wl.length stop) w5 hol (owns_held ho4.out.want hhd.out (fun g hg => ⟨(ho4.out.want.lt g hg).2, by have := Tag.ne (owns_tag ho4.out.want g hg) tL4.out (by decide); simpa using this⟩)) (cutN_le _ _) (by rw [← hwf.out]; exact cutL_take _ _) (by omega)
      have hbl : Hid (Below w.heap.size w w5) := ho4.out.below.trans (hhd.out.below ho4.out.below.size (by simp; omega))
      clear hh hol hlg hhd
      go_wp2_with fail
      refine heq.mono ?_
      rintro e w6 ⟨rfl, q, rfl⟩
      have hbq : Hid (Below w.heap.size w (w5.drewN q)) := hbl.out.trans (((Kept.refl [] w5).drewN q).below hbl.out.size (by simp))
      go_wp2
      go_ret
      exact ⟨rfl, hbq.out⟩
    · obtain ⟨b, rfl⟩ : ∃ b, q = b + 1 := ⟨q - 1, by omega⟩
      rw [show (((b + 1 : Nat) : Int) - 1) = (b : Int) from by omega]
      obtain ⟨F, hF⟩ : ∃ F, Hid (f4 x b = F) := ⟨_, rfl⟩
      have hFl : F < 4294967296 := by rw [← hF.out]; exact f4_lt _ _
      have hmk := fun W => mask4_any x b W (by omega)
      rw [m4_f4, hF.out] at hmk
      have eb : 0 ≤ (b : Int) := by omega
      go_wp2
      go_loopw [13, 14, 15, 49] (fun v vb vf vi ws => ∃ (k : Nat) (ks : List K4) (bo : Option Int), k ≤ n ∧ ks.length ≤ k ∧ vi = .int .i64 k ∧ vb = .int .i64 (bo.getD 0) ∧ vf = .bool bo.isSome ∧ Hid (ISt wo ws b es F k v ks bo)) (fun _ _ _ vi _ => n - (intOf vi).toNat)
      case atStart => exact ⟨0, [], none, Nat.zero_le _, by simp, rfl, rfl, rfl, ⟨World.ownsRow_nil _ _ _ _, rfl, rfl, Kept.refl _ _⟩⟩
      case round =>
        obtain ⟨k, ks, bo, hk, hnk, rfl, rfl, rfl, hist⟩ := hrel
        by_cases hlt : k < n
        · obtain ⟨⟨ea, ebt, ep⟩, hel⟩ : ∃ e, Hid (es[k]? = some e) := ⟨es[k]'(by rw [hen.out]; exact hlt), List.getElem?_eq_getElem _⟩
          have hbw : Hid (Below w.heap.size w wr) := host.out.below.trans (hist.out.kept.below host.out.below.size (by simp))
          have hea := (hes.out.kept hbw.out) k _ hel.out
          have HB : Hid _ := build_take (b := b) hel.out
          obtain ⟨bb, oo, ha1, hbb, d0, d1, d2⟩ := hea.at'
          have hb255 : ebt ≤ 255 := hea.b
          have hp : ep ≤ 65535 := hea.p
          simp only at d0 d1 d2
          clear hea
          obtain ⟨rfl, rfl⟩ : b0 = bb ∧ off = oo := by simpa using ha1
          clear ha1
          by_cases hbb2 : ebt % 33 = b
          · have hbi : (ebt : Int) % 33 = (b : Int) := by omega
            obtain ⟨g, hg4⟩ : ∃ g, Hid (f4 ea b = g) := ⟨_, rfl⟩
            have hgl : g < 4294967296 := by rw [← hg4.out]; exact f4_lt _ _
            have HB2 : Hid (build b (es.take (k + 1)) = build b (es.take k) ++ [⟨g, ep⟩]) := by
              show build b (es.take (k + 1)) = _
              rw [HB.out, if_pos hbb2]; simp only [keyOf]; rw [hg4.out]
            have hmk2 := fun W => mask4_any ea b W (by omega)
            rw [m4_f4, hg4.out] at hmk2
            obtain ⟨K, hK⟩ : ∃ K : Nat, Hid (g * 4294967296 + ep = K) := ⟨_, rfl⟩
            have hor : bits .or .u64 ((g : Int) * 4294967296) (ep : Int) = (K : Int) := by
              have := or_key g ep hgl (by omega)
              rw [u64_wrap_id _ (by omega) (by omega), hK.out] at this
              exact this
            have hKe : Hid (encK ⟨g, ep⟩ = .int .u64 K) := by show encK _ = _; unfold encK K4.key; simp only; rw [hK.out]
            have hsz := hist.out.kept.size
            go_wp2_with (first
              | (go_at_call 5; refine (hmk2 _).mono ?_; rintro e w' ⟨rfl, hw'⟩; obtain rfl := hw'.symm)
              | (at_builtin; refine wpList_append_own _ rfl (.tmp 63) (.tmp 71) 33 rfl wo.heap.size 35 i0 (.int .u64 0) 1 8 Ybad.underlying33 hi hz0 hz1 hz2 rfl (by decide) _ _ _ rfl ((hist.out.own.alloc _).alloc _) ⟨wr.heap.size + 1, 0, none⟩ 1 1 [.int .u64 K] rfl rfl (news1 _ _ _ _ (by simp)) (by intro u hu; simp at hu; subst hu; rfl) (by unfold maxLen; omega) (by omega) (by simp; omega) ?_))
            intro v1 w1 hown1 hgrow1 hne1
            have hrow := fun j hj => (hist.out.own.lt j hj).1
            have kk : Hid (Kept [] wo w1) := ((hist.out.kept.alloc _).alloc _).grown hgrow1 (fun j hj => .inr (hrow j hj))
            have hnx : Hid (ISt wo w1 b es F (k + 1) v1 (ks ++ [⟨g, ep⟩]) (best1 F bo ⟨g, ep⟩)) := hist.out.add (by rw [hKe.out]; exact hown1) kk.out HB2.out
            have le1 : wr.heap.size < w1.heap.size := by have := hgrow1.size; simp at this; omega
            have ce : w1.cell? ⟨wr.heap.size, 2, none⟩ = some (.int .u16 ep) := by
              have q : ((wr.alloc (.cells #[.int .u32 ea, .int .u8 ebt, .int .u16 ep] 26)).alloc (.cells #[.int .u64 K] 35)).cell? ⟨wr.heap.size, 2, none⟩ = some (.int .u16 ep) := by go_simp
              rw [← q]
              exact World.cell?_of_block (hgrow1.block wr.heap.size (by simp; omega) (fun e => by have := (hist.out.own.lt wr.heap.size e.symm).2; omega))
            clear hown1 hgrow1 hne1 hrow kk HB HB2 hist hmk2 d0 d1 d2 hor hKe
            by_cases e1 : g = F
            · subst e1
              cases bo with
              | none =>
                have hbe : best1 g none ⟨g, ep⟩ = some ((ep : Int) - 1) := by simp [best1]
                rw [hbe] at hnx
                go_wp2_with (go_at_call 5; refine (hmk _).mono ?_; rintro e w' ⟨rfl, hw'⟩; obtain rfl := hw'.symm)
                go_roundw
                case rel => exact ⟨k + 1, _, _, hlt, by simp; omega, by go_num, rfl, rfl, hnx.out⟩
                case measure => simp [intOf]; omega
              | some p =>
                by_cases e3 : (ep : Int) - 1 < p
                · have hbe : best1 g (some p) ⟨g, ep⟩ = some ((ep : Int) - 1) := by simp [best1, e3]
                  rw [hbe] at hnx
                  simp only [Option.isSome_some, Option.getD_some]
                  go_wp2_with (go_at_call 5; refine (hmk _).mono ?_; rintro e w' ⟨rfl, hw'⟩; obtain rfl := hw'.symm)
                  go_roundw
                  case rel => exact ⟨k + 1, _, _, hlt, by simp; omega, by go_num, rfl, rfl, hnx.out⟩
                  case measure => simp [intOf]; omega
                · have hbe : best1 g (some p) ⟨g, ep⟩ = some p := by simp [best1]; omega
                  rw [hbe] at hnx
                  simp only [Option.isSome_some, Option.getD_some]
                  go_wp2_with (go_at_call 5; refine (hmk _).mono ?_; rintro e w' ⟨rfl, hw'⟩; obtain rfl := hw'.symm)
                  go_roundw
                  case rel => exact ⟨k + 1, _, _, hlt, by simp; omega, by go_num, rfl, rfl, hnx.out⟩
                  case measure => simp [intOf]; omega
            · have hbe : best1 F bo ⟨g, ep⟩ = bo := by simp [best1, e1]
              rw [hbe] at hnx
              have e1b : ((g : Int) == (F : Int)) = false := by simp; omega
              go_wp2_with (go_at_call 5; refine (hmk _).mono ?_; rintro e w' ⟨rfl, hw'⟩; obtain rfl := hw'.symm)
              go_roundw
              case rel => exact ⟨k + 1, _, _, hlt, by simp; omega, by go_num, rfl, rfl, hnx.out⟩
              case measure => simp [intOf]; omega
          · have hnb : ¬ ((ebt : Int) % 33 = (b : Int)) := by omega
            have HE : Hid (build b (es.take (k + 1)) = build b (es.take k)) := by
              show build b (es.take (k + 1)) = _
              rw [HB.out, if_neg hbb2]; simp
            have hnx : Hid (ISt wo (wr.alloc (.cells #[.int .u32 ea, .int .u8 ebt, .int .u16 ep] 26)) b es F (k + 1) _ ks bo) := hist.out.skip ((Kept.refl _ _).alloc _) HE.out
            go_wp2
            go_roundw
            case rel => exact ⟨k + 1, ks, bo, hlt, by omega, by go_num, rfl, rfl, hnx.out⟩
            case measure => simp [intOf]; omega
        · obtain rfl : k = n := by omega
          have hbo : Hid (bo = best F ks) := hist.out.boe
          have host2 : Hid _ := host.out.kept hist.out.kept
          have hown := hist.out.own
          rcases hown.2 with ⟨hv, h0⟩ | ⟨g, cp, cur, hv, hgb, hcur, hcap, _⟩
          · subst hv
            obtain rfl : ks = [] := List.eq_nil_of_length_eq_zero h0
            obtain rfl : bo = none := hbo.out
            clear hown
            go_wp2
            go_roundw
            case rel => exact ⟨b, lv, wl, by omega, by omega, by go_num, host2.out, hwf.out⟩
            case measure => simp [intOf]
          · subst hv
            by_cases h0 : ks.length = 0
            · obtain rfl : ks = [] := List.eq_nil_of_length_eq_zero h0
              obtain rfl : bo = none := hbo.out
              clear hown hcur
              go_wp2
              go_roundw
              case rel => exact ⟨b, lv, wl, by omega, by omega, by go_num, host2.out, hwf.out⟩
              case measure => simp [intOf]
            · have hrow : Hid (R64 wr wr g 0 ks.length (fun t => (ks.getD t ⟨0, 0⟩).key)) := own_r64 hown rfl
              have hok : Hid (∀ x ∈ ks, x.ok) := by
                show ∀ x ∈ ks, x.ok
                rw [hist.out.nse]; exact build_ok hes.out b k
              have hsrt := sort4 g 0 ks.length cp _ wr hrow (by omega) (by omega)
              clear hown hcur hrow host2
              go_wp2_with fail
              refine hsrt.mono ?_
              rintro e w2 ⟨rfl, G, r2, s2, o2⟩
              have kk2 : Hid (Kept [] wo w2) := hist.out.kept.then r2.out.kept (fun z hz => by simp at hz; subst hz; exact .inr hgb)
              have host3 : Hid _ := host.out.kept kk2.out
              have HR2 : Hid (Row4 w2 g ks.length G) := ⟨r2.out.cell, r2.out.tag⟩
              have HK2 : Hid (KS ks.length G ks) := ks_of_sorted rfl s2.out o2.out hok.out
              clear hsrt r2 s2 o2 hok kk2
              obtain ⟨vv, tc, tov⟩ := host3.out.tc
              have tz := host3.out.tz
              have tl := host3.out.tl
              have hbw := host3.out.below.size
              go_wp2_with (first
                | (at_builtin; refine wpList_append_own _ rfl (.tmp 100) (.tmp 105) 28 rfl w.heap.size 39 i1 (.agg #[.int .u8 0, .slice none 0 0]) 2 32 Ybad.underlying28 hi1 hy0 hy1 hy2 rfl (by decide) _ _ _ rfl (tov.alloc _) ⟨w2.heap.size, 0, none⟩ 1 1 [.int .u8 b, .slice (some ⟨g, 0, none⟩) ks.length cp] rfl rfl (news2 _ _ _ _ _ (by simp)) (by intro u hu; simp at hu; rcases hu with rfl | rfl <;> rfl) (by unfold maxLen; omega) (by omega) (by simp; omega) ?_))
              intro v1 w3 hown1 hgrow1 _
              obtain ⟨gg, cg, rfl⟩ : ∃ gg cg, v1 = .slice (some ⟨gg, 0, none⟩) (lv.length + 1) cg := by
                rcases hown1.2 with ⟨e, h0⟩ | ⟨g, cap, cur, rfl, hb, _⟩
                · exact absurd h0 (by omega)
                · exact ⟨g, cap, rfl⟩
              obtain ⟨host4, c1, z1⟩ := host3.out.push (l := ⟨b, g, ks.length, cp, G, ks⟩) tc hown1 hgrow1 ⟨HR2.out, HK2.out, by show b ≤ 32; omega, by show ks.length ≤ 1024; omega⟩
              have HO4 : Hid _ := host4
              have tl3 : TB < w3.heap.size := by have := hgrow1.size; simp at this; omega
              have hb3 : w.heap.size ≤ w3.heap.size := by have := hgrow1.size; simp at this; omega
              have hwl : wl.length ≤ 33 := by
                have h := List.length_filterMap_le (spot x) lv
                rw [hwf.out]; unfold found; omega
              clear host4 host3 hown1 hgrow1 tc tov tz HR2 HK2 hist
              cases bo with
              | none =>
                have hwf2 : Hid (wl = found x (lv ++ [⟨b, g, ks.length, cp, G, ks⟩])) := by
                  show wl = _
                  rw [found_snoc, spot_new hF.out hbo.out, ← hwf.out]; simp
                go_wp2
                go_roundw
                case rel => exact ⟨b, _, wl, by omega, by simp; omega, by go_num, HO4.out, hwf2.out⟩
                case measure => simp [intOf]
              | some p =>
                have hwf2 : Hid (wl ++ [p] = found x (lv ++ [⟨b, g, ks.length, cp, G, ks⟩])) := by
                  show wl ++ [p] = _
                  rw [found_snoc, spot_new hF.out hbo.out, ← hwf.out]; simp
                simp only [Option.isSome_some, Option.getD_some]
                go_wp2_with (first
                  | (at_builtin; refine wpList_append_own _ rfl (.tmp 110) (.tmp 112) 32 rfl w.heap.size 3 i3 (.int .i64 0) 1 8 Ybad.underlying32 hi3 hx0 hx1 hx2 rfl (by decide) _ _ _ rfl (HO4.out.want.alloc _) ⟨w3.heap.size, 0, none⟩ 1 1 [.int .i64 p] rfl rfl (news1 _ _ _ _ (by simp)) (by intro u hu; simp at hu; subst hu; rfl) (by unfold maxLen; omega) (by omega) (by simp; omega) ?_))
                intro v2 w5 hown2 hgrow2 _
                have HO5 : Hid _ := HO4.out.wanted hown2 hgrow2
                clear hown2 hgrow2 HO4 c1 z1
                go_wp2
                go_roundw
                case rel => exact ⟨b, _, wl ++ [p], by omega, by simp; omega, by go_num, HO5.out, hwf2.out⟩
                case measure => simp [intOf]
end Go.Proofs.YbulkbnryDoor
