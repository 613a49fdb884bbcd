import Derived.Test.YbulkbnryDoorLen
import Derived.Deep.LoopGhost
namespace Go.Proofs.YbulkbnryDoor
open Go.RowKit
set_option linter.unusedSimpArgs false
set_option linter.unusedVariables false

/-- The cell of the random numbers. -/
structure XS (w0 w : World) (S : Nat) : Prop where
  kept : Kept [S] w0 w
  sc : ∃ s : Int, w.cell? ⟨S, 0, none⟩ = some (.int .u64 s)
  sf : w.frozen? ⟨S, 0, none⟩ = false
  stag : Tag w S 110
theorem XS.start {w0 w : World} {S : Nat} (h : XS w0 w S) : XS w w S := ⟨Kept.refl _ _, h.sc, h.sf, h.stag⟩
theorem XS.set {w0 w : World} {S : Nat} (h : XS w0 w S) (x : Int) : XS w0 (w.setCell ⟨S, 0, none⟩ (.int .u64 x)) S := by
  obtain ⟨s, hs⟩ := h.sc
  have k : Kept [S] w (w.setCell ⟨S, 0, none⟩ (.int .u64 x)) := (Kept.refl _ _).setCell (p := ⟨S, 0, none⟩) (.inl (by simp)) _
  exact ⟨h.kept.trans k, ⟨x, World.cell?_setCell_same _ _ _ hs⟩, by simpa using h.sf, h.stag.set _ _⟩
theorem XS.drewN {w0 w : World} {S : Nat} (h : XS w0 w S) (q : Nat) : XS w0 (w.drewN q) S := ⟨h.kept.drewN q, h.sc, h.sf, h.stag⟩
theorem XS.drew {w0 w : World} {S : Nat} (h : XS w0 w S) : XS w0 w.drew S := h.drewN 1
set_option maxRecDepth 100000 in
set_option maxHeartbeats 1600000 in
theorem next64 (S : Nat) (w : World) (h : Hid (XS w w S)) :
    Calls Ybad.prog 64 #[.pointer (some ⟨S, 0, none⟩)] w fun e w' => (∃ y : Int, e = .returned (.int .u64 y)) ∧ Hid (XS w w' S) := by
  obtain ⟨s, hs⟩ := h.out.sc
  have hf := h.out.sf
  go_enter Ybad.func64, Ybad.ntmps64
  go_wp2_with fail
  go_region
  generalize bits .xor .u64 _ _ = y1
  have h1 : Hid (XS w (w.setCell ⟨S, 0, none⟩ (.int .u64 y1)).drew S) := (h.out.set y1).drew
  generalize (w.setCell ⟨S, 0, none⟩ (.int .u64 y1)).drew = w1 at h1 ⊢
  clear hs hf
  obtain ⟨s1, hs1⟩ := h1.out.sc
  have hf1 := h1.out.sf
  go_wp2_with fail
  go_region
  generalize bits .xor .u64 _ _ = y2
  have h2 : Hid (XS w (w1.setCell ⟨S, 0, none⟩ (.int .u64 y2)).drew S) := (h1.out.set y2).drew
  generalize (w1.setCell ⟨S, 0, none⟩ (.int .u64 y2)).drew = w2 at h2 ⊢
  clear hs1 hf1
  obtain ⟨s2, hs2⟩ := h2.out.sc
  have hf2 := h2.out.sf
  go_wp2_with fail
  go_region
  generalize bits .xor .u64 _ _ = y3
  have h3 : Hid (XS w (w2.setCell ⟨S, 0, none⟩ (.int .u64 y3)).drew S) := (h2.out.set y3).drew
  generalize (w2.setCell ⟨S, 0, none⟩ (.int .u64 y3)).drew = w3 at h3 ⊢
  clear hs2 hf2
  obtain ⟨s3, hs3⟩ := h3.out.sc
  go_wp2
  go_ret
  exact ⟨⟨s3, rfl⟩, h3⟩
theorem and_le (y : Int) (m : Nat) (hm : m < 9223372036854775808) : ∃ z : Nat, bits .and .u64 y m = z ∧ z ≤ m := by
  refine ⟨((BitVec.ofInt 64 y) &&& (BitVec.ofInt 64 (m : Int))).toNat, ?_, ?_⟩
  · show IntKind.u64.wrap (((BitVec.ofInt 64 y) &&& (BitVec.ofInt 64 (m : Int))).toNat : Int) = _
    exact u64_wrap_id _ (Int.natCast_nonneg _) (by have := BitVec.isLt ((BitVec.ofInt 64 y) &&& (BitVec.ofInt 64 (m : Int))); omega)
  · rw [BitVec.toNat_and]
    refine Nat.le_trans Nat.and_le_right ?_
    have : (BitVec.ofInt 64 (m : Int)).toNat = m := by
      rw [BitVec.ofInt_natCast, BitVec.toNat_ofNat]; exact Nat.mod_eq_of_lt (by omega)
    omega
theorem R64.thenS {w0 w w' : World} {B off n S : Nat} {G : Nat → Int} (h : R64 w0 w B off n G) (k : Kept [S] w w') (hS : w0.heap.size ≤ S) (hB : B ≠ S) : R64 w0 w' B off n G :=
  ⟨h.kept.then k (by intro x hx; simp at hx; subst hx; exact .inr hS), fun t ht => (k.cell B _ h.tag.lt (by simpa using hB)).trans (h.cell t ht), fun t ht => (k.frozen B _ h.tag.lt (by simpa using hB)).trans (h.frz t ht), h.tag.kept k (by simpa using hB)⟩
theorem XS.move {w0 w w' : World} {S B : Nat} (h : XS w0 w S) (k : Kept [B] w w') (hB : B ≠ S) : XS w' w' S := by
  obtain ⟨s, hs⟩ := h.sc
  exact ⟨Kept.refl _ _, ⟨s, (k.cell S 0 h.stag.lt (by simpa using hB.symm)).trans hs⟩, (k.frozen S 0 h.stag.lt (by simpa using hB.symm)).trans h.sf, h.stag.kept k (by simpa using hB.symm)⟩
set_option maxRecDepth 100000 in
set_option maxHeartbeats 1600000 in
theorem break37 (B off n cap a b l : Nat) (G : Nat → Int) (w : World) (h : Hid (R64 w w B off n G)) (hz : (b : Int) - (a : Int) = (l : Int)) (hl : 12 < l) (hb : b ≤ n) (hn : n ≤ 100000) :
    Calls Ybad.prog 37 #[.slice (some ⟨B, off, none⟩) n cap, .int .i64 a, .int .i64 b] w fun e w' => e = .returned (.tuple #[]) ∧ ∃ G', Hid (R64 w w' B off n G') ∧ Hid (Same a b G G') := by
  have q4 : (l : Int).tdiv 4 = ((l / 4 : Nat) : Int) := rfl
  generalize hq : l / 4 = q at q4
  have qb : 3 ≤ q ∧ q * 4 ≤ l := by omega
  clear hq
  go_enter Ybad.func37, Ybad.ntmps37
  go_wp2_with fail
  go_at_call 63
  refine (pow63 l _ (by omega) (by omega)).mono ?_
  rintro e w' ⟨⟨m, rfl, m1, m2⟩, hw'⟩
  obtain rfl := hw'.symm
  clear hw'
  have k0 : Kept [] w (w.alloc (.cells #[.int .u64 l] 110)) := (Kept.refl _ _).alloc _
  have hr0 : Hid (R64 w (w.alloc (.cells #[.int .u64 l] 110)) B off n G) := h.out.thenKept k0
  have hx0 : Hid (XS (w.alloc (.cells #[.int .u64 l] 110)) (w.alloc (.cells #[.int .u64 l] 110)) w.heap.size) :=
    ⟨Kept.refl _ _, ⟨l, by rw [World.cell?_alloc_new]; rfl⟩, by simp, tag_last _ _ _ _ rfl⟩
  have hne : Hid (B ≠ w.heap.size) := Nat.ne_of_lt h.out.tag.lt
  clear h k0
  go_wp2_with fail
  go_loopg [9] 3 (fun k vi wr => ∃ (i : Nat) (G1 : Nat → Int), vi = .int .i64 i ∧ a ≤ i ∧ i ≤ a + q * 2 + 2 ∧ a + q * 2 + 2 - i ≤ k ∧ Hid (R64 w wr B off n G1) ∧ Hid (XS wr wr w.heap.size) ∧ Hid (Same a b G G1))
  case atStart => exact ⟨a + q * 2 - 1, G, by congr 1; omega, by omega, by omega, by omega, hr0, hx0, Same.refl _ _ _⟩
  case round =>
    clear hr0 hx0
    obtain ⟨i, G1, rfl, hai, hiq, hk, hr, hx, hs⟩ := hrel
    by_cases hi : i ≤ a + q * 2 + 1
    · have hiz : (i : Int) ≤ (a : Int) + (q : Int) * 2 + 1 := by omega
      go_wp2_with fail
      go_at_call 64
      refine (next64 _ _ hx).mono ?_
      rintro e w2 ⟨⟨y, rfl⟩, hx2⟩
      have hr2 : Hid (R64 w w2 B off n G1) := hr.out.thenS hx2.out.kept (Nat.le_refl _) hne.out
      obtain ⟨z, hzz, hzm⟩ := and_le y (m - 1) (by omega)
      rw [show ((m - 1 : Nat) : Int) = (m : Int) - 1 by omega] at hzz
      clear hr hx
      by_cases hzl : z < l
      · have hzlz : ¬ ((l : Int) ≤ (z : Int)) := by omega
        have hsx : Hid (Same a b G (sw G1 i (a + z))) := hs.out.trans (Same.sw G1 (by omega) (by omega) (by omega) (by omega))
        have hrx : Hid (R64 w ((w2.setCell ⟨B, off + i, none⟩ (.int .u64 (G1 (a + z)))).setCell ⟨B, off + (a + z), none⟩ (.int .u64 (G1 i))).drew B off n (sw G1 i (a + z))) := hr2.out.swapd i (a + z) (by omega) (by omega)
        have hxx : Hid (XS _ ((w2.setCell ⟨B, off + i, none⟩ (.int .u64 (G1 (a + z)))).setCell ⟨B, off + (a + z), none⟩ (.int .u64 (G1 i))).drew w.heap.size) := hx2.out.move (hr2.out.start.swapd i (a + z) (by omega) (by omega)).kept hne.out
        have hcw := hr2.out.cell
        have hfw := hr2.out.frz
        obtain ⟨v', hy'⟩ := cell?_setCell_some (w := w2) (p := ⟨B, off + i, none⟩) (x := .int .u64 (G1 (a + z))) (q := ⟨B, off + (a + z), none⟩) (hcw (a + z) (by omega))
        clear hs hr2 hx2
        go_wp2_with fail
        go_region
        go_wp2
        go_roundg (a + q * 2 + 2 - (i + 1))
        case measure => omega
        case rel => exact ⟨i + 1, _, by simp, by omega, by omega, by omega, hrx, hxx, hsx⟩
      · have hzlz : (l : Int) ≤ (z : Int) := by omega
        obtain ⟨o, ho⟩ : ∃ o : Nat, (z : Int) - (l : Int) = (o : Int) := ⟨z - l, by omega⟩
        have hol : o < l := by omega
        have hsx : Hid (Same a b G (sw G1 i (a + o))) := hs.out.trans (Same.sw G1 (by omega) (by omega) (by omega) (by omega))
        have hrx : Hid (R64 w ((w2.setCell ⟨B, off + i, none⟩ (.int .u64 (G1 (a + o)))).setCell ⟨B, off + (a + o), none⟩ (.int .u64 (G1 i))).drew B off n (sw G1 i (a + o))) := hr2.out.swapd i (a + o) (by omega) (by omega)
        have hxx : Hid (XS _ ((w2.setCell ⟨B, off + i, none⟩ (.int .u64 (G1 (a + o)))).setCell ⟨B, off + (a + o), none⟩ (.int .u64 (G1 i))).drew w.heap.size) := hx2.out.move (hr2.out.start.swapd i (a + o) (by omega) (by omega)).kept hne.out
        have hcw := hr2.out.cell
        have hfw := hr2.out.frz
        obtain ⟨v', hy'⟩ := cell?_setCell_some (w := w2) (p := ⟨B, off + i, none⟩) (x := .int .u64 (G1 (a + o))) (q := ⟨B, off + (a + o), none⟩) (hcw (a + o) (by omega))
        clear hs hr2 hx2
        go_wp2_with fail
        go_region
        go_wp2
        go_roundg (a + q * 2 + 2 - (i + 1))
        case measure => omega
        case rel => exact ⟨i + 1, _, by simp, by omega, by omega, by omega, hrx, hxx, hsx⟩
    · have hiz : ¬ ((i : Int) ≤ (a : Int) + (q : Int) * 2 + 1) := by omega
      go_wp2
      go_end0
      exact ⟨rfl, G1, hr, hs⟩
end Go.Proofs.YbulkbnryDoor
