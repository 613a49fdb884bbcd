import Derived.Test.YbulkbnryDoorTail6
namespace Go.Proofs.YbulkbnryDoor
open Go.RowKit
set_option linter.unusedSimpArgs false
set_option linter.unusedVariables false

set_option maxRecDepth 100000 in
set_option maxHeartbeats 6400000 in
theorem law6_none (a0 : Option Addr) (cap : Nat) (pick x y stop : Nat) (p4 p6 : Addr) (w : World) (hzs : Hid (Zs w p4 p6)) (hpk : pick ≤ 65535) (hx : x < 18446744073709551616) (hy : y < 18446744073709551616) (hst : stop ≤ 255) :
    Calls Ybad.prog 4 #[.slice a0 0 cap, .int .u16 pick, .int .u64 x, .int .u64 y, .int .u8 stop] w fun e w' => e = .returned (.bool true) ∧ Below w.heap.size w w' := by
  obtain ⟨i0, hi, hz0, hz1, hz2⟩ := info_parts Ybad.info61
  obtain ⟨i1, hi1, hy0, hy1, hy2⟩ := info_parts Ybad.info68
  obtain ⟨i3, hi3, hx0, hx1, hx2⟩ := info_parts Ybad.info3
  go_enter Ybad.func4, Ybad.ntmps4
  go_wp2_with fail
  obtain ⟨TB, hTB⟩ : ∃ TB, Hid (w.heap.size + 1 = TB) := ⟨_, rfl⟩
  obtain ⟨W0, hW0⟩ : ∃ W0, Hid (((w.alloc (.cells #[.int .u8 stop] 5)).alloc (.cells #[.slice none 0 0, .slice none 0 0] 31)) = W0) := ⟨_, rfl⟩
  have hst0 : Hid (OSt w W0 TB w.heap.size stop [] (.slice none 0 0) []) := by
    show OSt w W0 TB w.heap.size stop [] (.slice none 0 0) []
    rw [← hW0.out, ← hTB.out]
    refine ⟨((Below.refl _ _).alloc (Nat.le_refl _) _).alloc (by simp) _, by omega, tag_last _ _ _ _ (by simp), ⟨_, by go_simp, World.ownsRow_nil _ _ _ _⟩, by go_simp, by simp, World.ownsRow_nil _ _ _ _, tag_old (by simp) (tag_last _ _ _ _ rfl), by go_simp⟩
  rw [hW0.out, hTB.out]
  clear hW0
  go_loopw [15, 16] (fun vw vi wr => ∃ (q : Nat) (lv : List Lev) (wl : List Int), q ≤ 129 ∧ lv.length + q ≤ 129 ∧ vi = .int .i64 ((q : Int) - 1) ∧ Hid (OSt w wr TB w.heap.size stop lv vw wl) ∧ Hid (wl = found x y lv)) (fun _ vi _ => (intOf vi + 1).toNat)
  case atStart => exact ⟨129, [], [], Nat.le_refl _, by simp, rfl, hst0, rfl⟩
  case round =>
    clear hst0
    obtain ⟨q, lv, wl, hq, hlq, rfl, host, hwf⟩ := hrel
    obtain ⟨wo, rfl⟩ : ∃ wo, wo = wr := ⟨wr, rfl⟩
    by_cases hq0 : q = 0
    · subst hq0
      rw [show (((0 : Nat) : Int) - 1) = -1 from rfl]
      have sc := host.out.sc
      have sl := host.out.sg.lt
      have hwl : wl.length ≤ 129 := by
        have h := List.length_filterMap_le (spot x y) lv
        rw [hwf.out]; unfold found; omega
      have hcut := cut_any _ wl.length w.heap.size _ stop wo host.out.want (by omega) hst
      go_wp2_with fail
      refine hcut.mono ?_
      rintro e w' ⟨rfl, hw'⟩
      obtain rfl := hw'.symm
      clear hcut sc
      go_wp2_with fail
      obtain ⟨V0, hV0⟩ : ∃ V0, Hid (((wo.alloc (.cells #[.slice none 0 0] 32)).alloc (.cells #[.int .u8 0, .int .u8 0, .int .u8 0, .int .u8 0, .int .u8 0, .int .u8 0, .int .u8 0, .int .u8 0, .int .u8 0, .int .u8 0, .int .u8 0, .int .u8 0, .int .u8 0, .int .u8 0, .int .u8 0, .int .u8 0] 69)) = V0) := ⟨_, rfl⟩
      have kV : Hid (Kept [] wo V0) := by show Kept [] wo V0; rw [← hV0.out]; exact ((Kept.refl _ _).alloc _).alloc _
      have tL : Hid (Tag V0 wo.heap.size 32) := by show Tag V0 wo.heap.size 32; rw [← hV0.out]; exact tag_old (by simp) (tag_last _ _ _ _ rfl)
      have cL : Hid (V0.cell? ⟨wo.heap.size, 0, none⟩ = some (.slice none 0 0)) := by show V0.cell? _ = _; rw [← hV0.out]; go_simp
      have fL : Hid (V0.frozen? ⟨wo.heap.size, 0, none⟩ = false) := by show V0.frozen? _ = _; rw [← hV0.out]; go_simp
      have s0 : V0.heap.size = wo.heap.size + 2 := by rw [← hV0.out]; simp
      have RM0 : Hid (Room V0 (wo.heap.size + 1) 0) := by
        show Room V0 _ _
        have := zero16_room (wo.alloc (.cells #[.slice none 0 0] 32)) 0 (.inl rfl); rw [← hV0.out]; simpa using this
      have RM8 : Hid (Room V0 (wo.heap.size + 1) 8) := by
        show Room V0 _ _
        have := zero16_room (wo.alloc (.cells #[.slice none 0 0] 32)) 8 (.inr rfl); rw [← hV0.out]; simpa using this
      rw [hV0.out]
      clear hV0
      have l1 : wo.heap.size + 1 < V0.heap.size := by omega
      have rd0 : Hid (Room V0.drew (wo.heap.size + 1) 0) := ⟨RM0.out.r0, RM0.out.r1, RM0.out.r2, RM0.out.r3, RM0.out.r4, RM0.out.r5, RM0.out.r6, RM0.out.r7, RM0.out.z0, RM0.out.z1, RM0.out.z2, RM0.out.z3, RM0.out.z4, RM0.out.z5, RM0.out.z6, RM0.out.z7⟩
      have ld : wo.heap.size + 1 < V0.drew.heap.size := l1
      go_region_held3 (fun W => True) (first | trivial | (simp; done))
        (first
        | (go_at_call 19; refine (put19k (wo.heap.size + 1) 0 8 16 x V0.drew hx (by omega) ld rd0.out).mono ?_; rintro e w1 ⟨rfl, pt⟩))
      have k1 : Hid (Kept [wo.heap.size + 1] V0 w1) := ((Kept.refl _ V0).drew).trans pt.out.kept
      have rm1 : Hid (Room w1 (wo.heap.size + 1) 8) := Room.after pt.out (o := 0) (w := V0.drew) ⟨RM8.out.r0, RM8.out.r1, RM8.out.r2, RM8.out.r3, RM8.out.r4, RM8.out.r5, RM8.out.r6, RM8.out.r7, RM8.out.z0, RM8.out.z1, RM8.out.z2, RM8.out.z3, RM8.out.z4, RM8.out.z5, RM8.out.z6, RM8.out.z7⟩ (by omega)
      have bx1 : Hid (Bytes w1 (wo.heap.size + 1) 0 x) := pt.out.bytes
      clear rd0 ld RM8 RM0 pt
      have rd8 : Hid (Room w1.drew (wo.heap.size + 1) 8) := ⟨rm1.out.r0, rm1.out.r1, rm1.out.r2, rm1.out.r3, rm1.out.r4, rm1.out.r5, rm1.out.r6, rm1.out.r7, rm1.out.z0, rm1.out.z1, rm1.out.z2, rm1.out.z3, rm1.out.z4, rm1.out.z5, rm1.out.z6, rm1.out.z7⟩
      have bx9 : Hid (Bytes w1.drew (wo.heap.size + 1) 0 x) := ⟨bx1.out.c0, bx1.out.c1, bx1.out.c2, bx1.out.c3, bx1.out.c4, bx1.out.c5, bx1.out.c6, bx1.out.c7⟩
      have ld1 : wo.heap.size + 1 < w1.drew.heap.size := Nat.lt_of_lt_of_le l1 k1.out.size
      go_wp2_with fail
      go_region_held3 (fun W => True) (first | trivial | (simp; done))
        (first
        | (go_at_call 19; refine (put19k (wo.heap.size + 1) 8 8 8 y w1.drew hy (by omega) ld1 rd8.out).mono ?_; rintro e w2 ⟨rfl, pt⟩))
      have by2 : Hid (Bytes w2 (wo.heap.size + 1) 8 y) := pt.out.bytes
      have bx2 : Hid (Bytes w2 (wo.heap.size + 1) 0 x) := Bytes.after pt.out bx9.out (by omega)
      have k2 : Hid (Kept [wo.heap.size + 1] w1 w2) := ((Kept.refl _ w1).drew).trans pt.out.kept
      have kk2 : Hid (Kept [] wo w2) := (kV.out.then k1.out (by simp)).then k2.out (by simp)
      have k02 : Hid (Kept [wo.heap.size + 1] V0 w2) := k1.out.trans k2.out
      have bw2 : Hid (Below w.heap.size w w2) := host.out.below.trans (kk2.out.below host.out.below.size (by simp))
      have zs2 : Hid (Zs w2 p4 p6) := hzs.out.below bw2.out (Nat.le_refl _)
      have lt2 : wo.heap.size + 1 < w2.heap.size := Nat.lt_of_lt_of_le l1 k02.out.size
      obtain ⟨a0, a1, a2, a3, a4, a5, a6, a7⟩ := bx2.out
      obtain ⟨a8, a9, a10, a11, a12, a13, a14, a15⟩ := by2.out
      simp only [Nat.zero_add, Nat.reduceAdd] at a1 a2 a3 a4 a5 a6 a7 a9 a10 a11 a12 a13 a14 a15
      clear rd8 bx9 ld1 rm1 bx1 pt bx2 by2 k1 k2
      go_wp2_with fail
      refine (from16 x y p6 w2 hx hy zs2.out.l2 zs2.out.c2).mono ?_
      rintro e w3 ⟨rfl, k3⟩
      have kk3 : Hid (Kept [] wo w3) := kk2.out.trans k3.out
      have ho3 : Hid _ := host.out.kept kk3.out
      have zs3 : Hid (Zs w3 p4 p6) := zs2.out.kept k3.out
      have l0 : wo.heap.size < V0.heap.size := by omega
      have l02 : wo.heap.size < w2.heap.size := by omega
      have tL3 : Hid (Tag w3 wo.heap.size 32) := (tL.out.kept k02.out (by simp)).kept k3.out (by simp)
      have cL3 : Hid (w3.cell? ⟨wo.heap.size, 0, none⟩ = some (.slice none 0 0)) := (k3.out.cell _ 0 l02 (by simp)).trans ((k02.out.cell _ 0 l0 (by simp)).trans cL.out)
      have fL3 : Hid (w3.frozen? ⟨wo.heap.size, 0, none⟩ = false) := (k3.out.frozen _ 0 l02 (by simp)).trans ((k02.out.frozen _ 0 l0 (by simp)).trans fL.out)
      have hh := hold_all x y p4 p6 w w3 TB w.heap.size wo.heap.size stop lv _ wl hx hy zs3.out ho3.out tL3.out cL3.out fL3.out (by omega) hst
      clear a0 a1 a2 a3 a4 a5 a6 a7 a8 a9 a10 a11 a12 a13 a14 a15 kk2 k02 zs2 bw2 k3 cL fL tL kV cL3 fL3 zs3
      go_wp2_with fail
      refine hh.mono ?_
      rintro e w4 ⟨rfl, hlg, hhd⟩
      obtain ⟨vl, hcl, hol⟩ := hlg.out.c
      have ll4 := hlg.out.ll
      have heq := equal_same w3.heap.size w.heap.size vl _ (cutL (found x y lv) stop) wl (cutN wl.length stop) w4 hol (owns_held ho3.out.want hhd.out (fun g hg => ⟨(ho3.out.want.lt g hg).2, by have := Tag.ne (owns_tag ho3.out.want g hg) tL3.out (by decide); simpa using this⟩)) (cutN_le _ _) (by rw [← hwf.out]; exact cutL_take _ _) (by omega)
      have hbl : Hid (Below w.heap.size w w4) := ho3.out.below.trans (hhd.out.below ho3.out.below.size (by simp; omega))
      clear hh hol hlg hhd
      go_wp2_with fail
      refine heq.mono ?_
      rintro e w5 ⟨rfl, q, rfl⟩
      have hbq : Hid (Below w.heap.size w (w4.drewN q)) := hbl.out.trans (((Kept.refl [] w4).drewN q).below hbl.out.size (by simp))
      go_wp2
      go_ret
      exact ⟨rfl, hbq.out⟩
    · obtain ⟨b, rfl⟩ : ∃ b, q = b + 1 := ⟨q - 1, by omega⟩
      rw [show (((b + 1 : Nat) : Int) - 1) = (b : Int) from by omega]
      obtain ⟨ah, al, hm6⟩ : ∃ ah al, Hid (m6 x y b = (ah, al)) := ⟨_, _, rfl⟩
      have hmk := mask6_any x y b wo (by omega)
      rw [hm6.out] at hmk
      simp only at hmk
      have eb : 0 ≤ (b : Int) := by omega
      go_wp2_with fail
      refine hmk.mono ?_
      rintro e w' ⟨rfl, hw'⟩
      obtain rfl := hw'.symm
      clear hmk
      go_wp2
      go_loopw [17, 18, 19, 69] (fun v vb vf vi ws => ∃ (k : Nat) (ns : List Net) (bo : Option Int), k ≤ 0 ∧ ns.length ≤ k ∧ vi = .int .i64 k ∧ vb = .int .i64 (bo.getD 0) ∧ vf = .bool bo.isSome ∧ Hid (ISt wo ws b [] ah al k v ns bo)) (fun _ _ _ vi _ => 0 - (intOf vi).toNat)
      case atStart => exact ⟨0, [], none, Nat.zero_le _, by simp, rfl, rfl, rfl, ⟨World.ownsRow_nil _ _ _ _, rfl, rfl, Kept.refl _ _⟩⟩
      case round =>
        obtain ⟨k, ns, bo, hk, hnk, rfl, rfl, rfl, hist⟩ := hrel
        by_cases hlt : k < 0
        · exact absurd hlt (by omega)
        · obtain rfl : k = 0 := by omega
          have hbo : Hid (bo = best ah al ns) := hist.out.boe
          have host2 : Hid _ := host.out.kept hist.out.kept
          have hown := hist.out.own
          rcases hown.2 with ⟨hv, h0⟩ | ⟨g, cp, cur, hv, hgb, hcur, hcap, _⟩
          · subst hv
            obtain rfl : ns = [] := List.eq_nil_of_length_eq_zero h0
            obtain rfl : bo = none := hbo.out
            clear hown
            go_wp2
            go_roundw
            case rel => exact ⟨b, lv, wl, by omega, by omega, by go_num, host2.out, hwf.out⟩
            case measure => simp [intOf]
          · subst hv
            by_cases h0 : ns.length = 0
            · obtain rfl : ns = [] := List.eq_nil_of_length_eq_zero h0
              obtain rfl : bo = none := hbo.out
              clear hown hcur
              go_wp2
              go_roundw
              case rel => exact ⟨b, lv, wl, by omega, by omega, by go_num, host2.out, hwf.out⟩
              case measure => simp [intOf]
            · exact absurd hnk (by omega)

set_option maxRecDepth 100000 in
theorem law6_long (a0 : Option Addr) (n cap : Nat) (a1 a2 a3 : Value) (stop : Nat) (w : World) (hn : 1024 < n) (hst : stop ≤ 255) :
    Calls Ybad.prog 4 #[.slice a0 n cap, a1, a2, a3, .int .u8 stop] w fun e w' => e = .returned (.bool true) ∧ Below w.heap.size w w' := by
  have hb : Hid (Below w.heap.size w (w.alloc (.cells #[.int .u8 stop] 5))) := (Below.refl _ _).alloc (Nat.le_refl _) _
  go_enter Ybad.func4, Ybad.ntmps4
  go_wp2
  go_ret
  exact ⟨rfl, hb.out⟩
end Go.Proofs.YbulkbnryDoor
