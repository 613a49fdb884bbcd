import Derived.Test.YbulkbnryDoorState4
namespace Go.Proofs.YbulkbnryDoor
open Go.RowKit
set_option linter.unusedSimpArgs false
set_option linter.unusedVariables false

set_option maxRecDepth 100000 in
set_option maxHeartbeats 6400000 in
theorem law4_none (a0 : Option Addr) (cap : Nat) (pick x stop : Nat) (p4 : Addr) (w : World) (hzs : Hid (Z4 w p4)) (hpk : pick ≤ 65535) (hx : x < 4294967296) (hst : stop ≤ 255) :
    Calls Ybad.prog 3 #[.slice a0 0 cap, .int .u16 pick, .int .u32 x, .int .u8 stop] w fun e w' => e = .returned (.bool true) ∧ Below w.heap.size w w' := by
  obtain ⟨i0, hi, hz0, hz1, hz2⟩ := info_parts Ybad.info35
  obtain ⟨i1, hi1, hy0, hy1, hy2⟩ := info_parts Ybad.info39
  obtain ⟨i3, hi3, hx0, hx1, hx2⟩ := info_parts Ybad.info3
  go_enter Ybad.func3, Ybad.ntmps3
  go_wp2_with fail
  obtain ⟨TB, hTB⟩ : ∃ TB, Hid (w.heap.size + 1 = TB) := ⟨_, rfl⟩
  obtain ⟨W0, hW0⟩ : ∃ W0, Hid (((w.alloc (.cells #[.int .u8 stop] 5)).alloc (.cells #[.slice none 0 0, .slice none 0 0] 31)) = W0) := ⟨_, rfl⟩
  have hst0 : Hid (OSt w W0 TB w.heap.size stop [] (.slice none 0 0) []) := by
    show OSt w W0 TB w.heap.size stop [] (.slice none 0 0) []
    rw [← hW0.out, ← hTB.out]
    refine ⟨((Below.refl _ _).alloc (Nat.le_refl _) _).alloc (by simp) _, by omega, tag_last _ _ _ _ (by simp), ⟨_, by go_simp, World.ownsRow_nil _ _ _ _⟩, by go_simp, by simp, World.ownsRow_nil _ _ _ _, tag_old (by simp) (tag_last _ _ _ _ rfl), by go_simp⟩
  rw [hW0.out, hTB.out]
  clear hW0
  go_loopw [11, 12] (fun vw vi wr => ∃ (q : Nat) (lv : List Lev4) (wl : List Int), q ≤ 33 ∧ lv.length + q ≤ 33 ∧ vi = .int .i64 ((q : Int) - 1) ∧ Hid (OSt w wr TB w.heap.size stop lv vw wl) ∧ Hid (wl = found x lv)) (fun _ vi _ => (intOf vi + 1).toNat)
  case atStart => exact ⟨33, [], [], Nat.le_refl _, by simp, rfl, hst0, rfl⟩
  case round =>
    clear hst0
    obtain ⟨q, lv, wl, hq, hlq, rfl, host, hwf⟩ := hrel
    obtain ⟨wo, rfl⟩ : ∃ wo, wo = wr := ⟨wr, rfl⟩
    by_cases hq0 : q = 0
    · subst hq0
      rw [show (((0 : Nat) : Int) - 1) = -1 from rfl]
      have sc := host.out.sc
      have sl := host.out.sg.lt
      have hwl : wl.length ≤ 33 := by
        have h := List.length_filterMap_le (spot x) lv
        rw [hwf.out]; unfold found; omega
      have hcut := cut_any _ wl.length w.heap.size _ stop wo host.out.want (by omega) hst
      go_wp2_with fail
      refine hcut.mono ?_
      rintro e w' ⟨rfl, hw'⟩
      obtain rfl := hw'.symm
      clear hcut sc
      obtain ⟨lo, hlo⟩ : ∃ lo : Nat, Hid (lo = 281470681743360 + x) := ⟨_, rfl⟩
      have hb0 : x / 16777216 ≤ 255 := by omega
      have hb1 : x / 65536 % 256 ≤ 255 := by omega
      have hb2 : x / 256 % 256 ≤ 255 := by omega
      have hb3 : x % 256 ≤ 255 := by omega
      go_wp2_with fail
      obtain ⟨V0, hV0⟩ : ∃ V0, Hid (wo.alloc (.cells #[.slice none 0 0] 32) = V0) := ⟨_, rfl⟩
      have kV : Hid (Kept [] wo V0) := by show Kept [] wo V0; rw [← hV0.out]; exact (Kept.refl _ _).alloc _
      have tL : Hid (Tag V0 wo.heap.size 32) := by show Tag V0 wo.heap.size 32; rw [← hV0.out]; exact tag_last _ _ _ _ rfl
      have cL : Hid (V0.cell? ⟨wo.heap.size, 0, none⟩ = some (.slice none 0 0)) := by show V0.cell? _ = _; rw [← hV0.out]; go_simp
      have fL : Hid (V0.frozen? ⟨wo.heap.size, 0, none⟩ = false) := by show V0.frozen? _ = _; rw [← hV0.out]; go_simp
      have s0 : V0.heap.size = wo.heap.size + 1 := by rw [← hV0.out]; simp
      rw [hV0.out]
      clear hV0
      have bw0 : Hid (Below w.heap.size w V0) := host.out.below.trans (kV.out.below host.out.below.size (by simp))
      have zs0 : Hid (Z4 V0 p4) := hzs.out.below bw0.out (Nat.le_refl _)
      rw [show ((x : Int) / 16777216) = ((x / 16777216 : Nat) : Int) by omega, show ((x : Int) / 65536 % 256) = ((x / 65536 % 256 : Nat) : Int) by omega, show ((x : Int) / 256 % 256) = ((x / 256 % 256 : Nat) : Int) by omega, show ((x : Int) % 256) = ((x % 256 : Nat) : Int) by omega]
      refine (from4 (x / 16777216) (x / 65536 % 256) (x / 256 % 256) (x % 256) lo p4 V0 hb0 hb1 hb2 hb3 (by show lo = _; rw [hlo.out]; omega) zs0).mono ?_
      rintro e w3 ⟨rfl, k3⟩
      obtain ⟨w4, hw4⟩ : ∃ w4, Hid (w3.alloc (.cells #[.int .u64 0, .int .u64 lo, .pointer (some p4)] 48) = w4) := ⟨_, rfl⟩
      have k34 : Hid (Kept [] w3 w4) := by show Kept [] w3 w4; rw [← hw4.out]; exact (Kept.refl _ _).alloc _
      have k04 : Hid (Kept [] V0 w4) := k3.out.trans k34.out
      have kk4 : Hid (Kept [] wo w4) := kV.out.trans k04.out
      have ho4 : Hid _ := host.out.kept kk4.out
      have zs4 : Hid (Z4 w4 p4) := zs0.out.kept k04.out
      have l0 : wo.heap.size < V0.heap.size := by omega
      have tL4 : Hid (Tag w4 wo.heap.size 32) := tL.out.kept k04.out (by simp)
      have cL4 : Hid (w4.cell? ⟨wo.heap.size, 0, none⟩ = some (.slice none 0 0)) := (k04.out.cell _ 0 l0 (by simp)).trans cL.out
      have fL4 : Hid (w4.frozen? ⟨wo.heap.size, 0, none⟩ = false) := (k04.out.frozen _ 0 l0 (by simp)).trans fL.out
      have hh := hold_all x lo p4 w w4 TB w.heap.size wo.heap.size stop lv _ wl hx hlo.out zs4.out ho4.out tL4.out cL4.out fL4.out (by omega) hst
      clear k3 k34 k04 zs0 bw0 cL fL tL kV cL4 fL4 zs4 hb0 hb1 hb2 hb3
      go_wp2_with fail
      rw [hw4.out]
      refine hh.mono ?_
      rintro e w5 ⟨rfl, hlg, hhd⟩
      obtain ⟨vl, hcl, hol⟩ := hlg.out.c
      have ll5 := hlg.out.ll
      have heq := equal_same w4.heap.size w.heap.size vl _ (cutL (found x lv) stop) wl (cutN wl.length stop) w5 hol (owns_held ho4.out.want hhd.out (fun g hg => ⟨(ho4.out.want.lt g hg).2, by have := Tag.ne (owns_tag ho4.out.want g hg) tL4.out (by decide); simpa using this⟩)) (cutN_le _ _) (by rw [← hwf.out]; exact cutL_take _ _) (by omega)
      have hbl : Hid (Below w.heap.size w w5) := ho4.out.below.trans (hhd.out.below ho4.out.below.size (by simp; omega))
      clear hh hol hlg hhd
      go_wp2_with fail
      refine heq.mono ?_
      rintro e w6 ⟨rfl, q, rfl⟩
      have hbq : Hid (Below w.heap.size w (w5.drewN q)) := hbl.out.trans (((Kept.refl [] w5).drewN q).below hbl.out.size (by simp))
      go_wp2
      go_ret
      exact ⟨rfl, hbq.out⟩
    · obtain ⟨b, rfl⟩ : ∃ b, q = b + 1 := ⟨q - 1, by omega⟩
      rw [show (((b + 1 : Nat) : Int) - 1) = (b : Int) from by omega]
      obtain ⟨F, hF⟩ : ∃ F, Hid (f4 x b = F) := ⟨_, rfl⟩
      have hFl : F < 4294967296 := by rw [← hF.out]; exact f4_lt _ _
      have hmk := fun W => mask4_any x b W (by omega)
      rw [m4_f4, hF.out] at hmk
      have eb : 0 ≤ (b : Int) := by omega
      go_wp2
      go_loopw [13, 14, 15, 49] (fun v vb vf vi ws => ∃ (k : Nat) (ks : List K4) (bo : Option Int), k ≤ 0 ∧ ks.length ≤ k ∧ vi = .int .i64 k ∧ vb = .int .i64 (bo.getD 0) ∧ vf = .bool bo.isSome ∧ Hid (ISt wo ws b [] F k v ks bo)) (fun _ _ _ vi _ => 0 - (intOf vi).toNat)
      case atStart => exact ⟨0, [], none, Nat.zero_le _, by simp, rfl, rfl, rfl, ⟨World.ownsRow_nil _ _ _ _, rfl, rfl, Kept.refl _ _⟩⟩
      case round =>
        obtain ⟨k, ks, bo, hk, hnk, rfl, rfl, rfl, hist⟩ := hrel
        by_cases hlt : k < 0
        · exact absurd hlt (by omega)
        · obtain rfl : k = 0 := by omega
          have hbo : Hid (bo = best F ks) := hist.out.boe
          have host2 : Hid _ := host.out.kept hist.out.kept
          have hown := hist.out.own
          rcases hown.2 with ⟨hv, h0⟩ | ⟨g, cp, cur, hv, hgb, hcur, hcap, _⟩
          · subst hv
            obtain rfl : ks = [] := List.eq_nil_of_length_eq_zero h0
            obtain rfl : bo = none := hbo.out
            clear hown
            go_wp2
            go_roundw
            case rel => exact ⟨b, lv, wl, by omega, by omega, by go_num, host2.out, hwf.out⟩
            case measure => simp [intOf]
          · subst hv
            by_cases h0 : ks.length = 0
            · obtain rfl : ks = [] := List.eq_nil_of_length_eq_zero h0
              obtain rfl : bo = none := hbo.out
              clear hown hcur
              go_wp2
              go_roundw
              case rel => exact ⟨b, lv, wl, by omega, by omega, by go_num, host2.out, hwf.out⟩
              case measure => simp [intOf]
            · exact absurd hnk (by omega)

set_option maxRecDepth 100000 in
theorem law4_long (a0 : Option Addr) (n cap : Nat) (a1 a2 : Value) (stop : Nat) (w : World) (hn : 1024 < n) (hst : stop ≤ 255) :
    Calls Ybad.prog 3 #[.slice a0 n cap, a1, a2, .int .u8 stop] w fun e w' => e = .returned (.bool true) ∧ Below w.heap.size w w' := by
  have hb : Hid (Below w.heap.size w (w.alloc (.cells #[.int .u8 stop] 5))) := (Below.refl _ _).alloc (Nat.le_refl _) _
  go_enter Ybad.func3, Ybad.ntmps3
  go_wp2
  go_ret
  exact ⟨rfl, hb.out⟩
end Go.Proofs.YbulkbnryDoor
