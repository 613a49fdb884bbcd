import Derived.Test.YbulkbnxwFmtProc
import Derived.Test.YbulkbnxwFmtMsgs
namespace Go.Proofs.YbulkbnxwFmt
open Go.RowKit

theorem assert2 (x : Value) (w : World) : (Instr.typeAssert (.iface 2 x) 20 2 true).run Ybaf.prog w = .ok (.tuple #[x, .bool true]) w := by kernel_rfl
theorem Held.below {Z : Nat} {S : List Nat} {w w' : World} {B : Nat} (h : Held Z S w w') (hB : B ≤ Z) (hs : ∀ k, k ∈ S → B ≤ k) : Below B w w' :=
  ⟨h.os, h.tape, h.output, h.size, fun k hk => h.block k (by omega) (fun hm => by have := hs k hm; omega)⟩

set_option maxRecDepth 100000 in
theorem law_long (x : Int) (a1 a2 : Option Addr) (l1 c1 l2 c2 : Nat) (d : Int) (w : World) (m1 : l1 ≤ 9223372036854775807) (m2 : l2 ≤ 9223372036854775807) (h : 1024 < l1 ∨ 1024 < l2) :
    Calls Ybaf.prog 5 #[.int .u16 x, .slice a1 l1 c1, .slice a2 l2 c2, .int .i64 d] w fun e w' => e = .returned (.bool true) ∧ Below w.heap.size w w' := by
  by_cases h1 : 1024 < l1
  · go_enter Ybaf.func5, Ybaf.ntmps5
    go_wp2
    go_ret
    exact ⟨rfl, Below.refl _ _⟩
  · have h2 : 1024 < l2 := by omega
    clear h
    go_enter Ybaf.func5, Ybaf.ntmps5
    go_wp2
    go_ret
    exact ⟨rfl, Below.refl _ _⟩

set_option maxRecDepth 100000 in
set_option maxHeartbeats 3200000 in
theorem law_short (m : Nat) (a1 a2 : Option Addr) (l1 c1 l2 c2 : Nat) (d : Int) (w : World) (hm : m ≤ 65535) (r1 : Hid (Row .i64 w a1 l1)) (r2 : Hid (Row .u8 w a2 l2)) (h1 : l1 ≤ 1024) (h2 : l2 ≤ 1024) :
    Calls Ybaf.prog 5 #[.int .u16 m, .slice a1 l1 c1, .slice a2 l2 c2, .int .i64 d] w fun e w' => e = .returned (.bool true) ∧ Below w.heap.size w w' := by
  have ta := assert2
  obtain ⟨n, hn0⟩ : ∃ n : Nat, n = 1 + m % 300 := ⟨_, rfl⟩
  have hn1 : 1 ≤ n := by omega
  have hn2 : n ≤ 1000 := by omega
  have hN : Hid _ := hn0
  clear hn0
  go_enter Ybaf.func5, Ybaf.ntmps5
  go_wp2_with fail
  rw [show (1 + (m : Int) % 300) = (n : Int) from by have := hN.out; omega]
  have k0 : Kept [] w (w.alloc (.cells #[.nilIface, .int .i64 n, .slice none 0 0, .int .i64 0] 44)) := (Kept.refl _ _).alloc _
  have e0 : Hid (EnvAt (w.alloc (.cells #[.nilIface, .int .i64 n, .slice none 0 0, .int .i64 0] 44)) w.heap.size n) := by
    refine ⟨by simp, ?_, ?_, ?_, ?_⟩ <;> go_simp
  refine (newProc_any w.heap.size n d 0 _ e0 hn1 hn2).mono ?_
  rintro e w1 ⟨P, T, L, D, rfl, hp1, ht1, zP, zT, zL, zD, nPT, hk1⟩
  have ks1 : Hid (Kept [] w w1) := k0.trans hk1.out
  have e1 : Hid _ := e0.out.kept hk1.out (by simp)
  have s1 : w.heap.size + 1 ≤ w1.heap.size := by simpa using hk1.out.size
  simp only [World.size_alloc] at zP zT zL zD
  have rr1 : Hid (Row .i64 w1 a1 l1) := fun i hi => by
    obtain ⟨b, off, z, rfl, hb, hc⟩ := r1.out i hi
    exact ⟨b, off, z, rfl, Nat.lt_of_lt_of_le hb ks1.out.size, (ks1.out.cell b _ hb (by simp)).trans hc⟩
  have rr2 : Hid (Row .u8 w1 a2 l2) := fun i hi => by
    obtain ⟨b, off, z, rfl, hb, hc⟩ := r2.out i hi
    exact ⟨b, off, z, rfl, Nat.lt_of_lt_of_le hb ks1.out.size, (ks1.out.cell b _ hb (by simp)).trans hc⟩
  clear k0 e0 hk1 r1 r2
  go_wp2_with fail
  refine (msgs_any n l1 c1 l2 c2 a1 a2 d w1 rr1 rr2 h1 h2 hn2).mono ?_
  rintro e w2 ⟨ms, q, rfl, hms, hq, hqn, hids, hnum, s2, hk2⟩
  have hp2 : Hid _ := hp1.out.kept hk2.out (by simp)
  have ht2 : Hid _ := ht1.out.kept hk2.out (by simp) (by simp) (by simp)
  have e2 : Hid _ := e1.out.kept hk2.out (by simp)
  have tl := ht1.out.tl
  have ll := ht1.out.ll
  have dl := ht1.out.dl
  have pl := hp1.out.pl
  have hp2' : Hid (∃ lab, ProcAt w2 P w.heap.size T d lab ∧ LabAt w2 w2.heap.size lab) := ⟨_, hp2.out, .inl rfl⟩
  clear hp1 ht1 e1 rr1 rr2 hp2
  go_wp2_with fail
  refine (Receive_any P w.heap.size T L D n w2.heap.size w1.heap.size q n d ms _ w2 hp2' ht2 e2 hms hq hids (Nat.le_refl _) (by omega) (by omega) (by omega) (by omega) (by omega) (by omega) nPT ⟨by omega, by omega⟩ ⟨by omega, by omega⟩ hn2 (by omega)).mono ?_
  rintro e w3 ⟨rfl, hd, hh⟩
  have hnum3 : Hid (Nums w3 (w1.heap.size + 1) (heldOf ms n d)) := fun i hi => (hh.out.cell (w1.heap.size + 1) i s2 (by simp; omega)).trans (hnum.out i hi)
  have hb3 : Hid (Below w.heap.size w w3) := ((ks1.out.below (Nat.le_refl _) (by simp)).trans (hk2.out.below (by omega) (by simp))).trans (hh.out.below (by omega) (by simp; omega))
  obtain ⟨el, e3, G, cap, e23, gc⟩ := hd.out
  have hlen : Hid ((heldOf ms n d).length = n) := by show (heldOf ms n d).length = n; simp [heldOf]
  have heq : maj (vals (fun _ => none) d ms n) d = plain (heldOf ms n d) d := maj_plain (heldOf ms n d) d
  rw [heq] at gc
  clear hp2' ht2 e2 hms hq hids hnum hk2 hd hh heq nPT tl ll dl pl ks1
  go_wp2_with fail
  refine (plain_any (w1.heap.size + 1) (heldOf ms n d) n n d w3 hnum3 hlen (by omega)).mono ?_
  rintro e w4 ⟨rfl, hb4⟩
  have hb5 : Hid (Below w.heap.size w w4) := hb3.out.trans (hb4.mono hb3.out.size)
  clear hb4 hb3 hnum3
  go_wp2
  go_ret
  exact ⟨rfl, hb5.out⟩
end Go.Proofs.YbulkbnxwFmt
