import Derived.Test.YbulkbnxwFmtMaj
import Derived.OwnWalk
import Derived.Laws.AppendOwnNone
namespace Go.Proofs.YbulkbnxwFmt
open Go.RowKit

/-- The world has new blocks, and of the old ones those in S alone may be written. -/
structure Kept (S : List Nat) (w w' : World) : Prop where
  os : w'.os = w.os
  tape : w'.tape = w.tape
  output : w'.output = w.output
  size : w.heap.size ≤ w'.heap.size
  block : ∀ k, k < w.heap.size → k ∉ S → w'.heap[k]? = w.heap[k]?

theorem Kept.refl (S : List Nat) (w : World) : Kept S w w := ⟨rfl, rfl, rfl, Nat.le_refl _, fun _ _ _ => rfl⟩
theorem Kept.trans {S : List Nat} {a b c : World} (h : Kept S a b) (k : Kept S b c) : Kept S a c :=
  ⟨k.os.trans h.os, k.tape.trans h.tape, k.output.trans h.output, Nat.le_trans h.size k.size, fun i hi hs => (k.block i (Nat.lt_of_lt_of_le hi h.size) hs).trans (h.block i hi hs)⟩
theorem Kept.mono {S S' : List Nat} {a b : World} (h : Kept S a b) (hs : ∀ k, k ∈ S → k ∈ S') : Kept S' a b :=
  ⟨h.os, h.tape, h.output, h.size, fun i hi hn => h.block i hi (fun hm => hn (hs i hm))⟩
/-- New blocks of the first stretch may be written in the second. -/
theorem Kept.then {S S' : List Nat} {a b c : World} (h : Kept S a b) (k : Kept S' b c) (hs : ∀ x, x ∈ S' → x ∈ S ∨ a.heap.size ≤ x) : Kept S a c :=
  ⟨k.os.trans h.os, k.tape.trans h.tape, k.output.trans h.output, Nat.le_trans h.size k.size, fun i hi hn => (k.block i (Nat.lt_of_lt_of_le hi h.size) (fun hm => by rcases hs i hm with h1 | h1; exact hn h1; omega)).trans (h.block i hi hn)⟩
theorem Kept.alloc {S : List Nat} {a w : World} (h : Kept S a w) (o : Obj) : Kept S a (w.alloc o) :=
  h.trans ⟨rfl, rfl, rfl, by simp, fun k hk _ => Below.heap_alloc _ _ _ hk⟩
theorem Kept.drewN {S : List Nat} {a w : World} (h : Kept S a w) (n : Nat) : Kept S a (w.drewN n) := ⟨h.os, h.tape, h.output, h.size, h.block⟩
theorem Kept.drew {S : List Nat} {a w : World} (h : Kept S a w) : Kept S a w.drew := ⟨h.os, h.tape, h.output, h.size, h.block⟩
theorem Kept.setCell {S : List Nat} {a w : World} (h : Kept S a w) {p : Addr} (hp : p.block ∈ S ∨ a.heap.size ≤ p.block) (u : Value) : Kept S a (w.setCell p u) :=
  h.then (S' := [p.block]) ⟨rfl, rfl, rfl, by simp [World.setCell], fun k _ hn => Below.heap_setCell _ _ _ _ (fun e => hn (by simp [e]))⟩ (fun x hx => by simp at hx; rw [hx]; exact hp)
theorem Kept.grown {S : List Nat} {a w w' : World} {row : Option Nat} (h : Kept S a w) (hg : w.grownBy w' row) (hr : ∀ k, row = some k → k ∈ S ∨ a.heap.size ≤ k) : Kept S a w' :=
  ⟨hg.os.trans h.os, hg.tape.trans h.tape, hg.output.trans h.output, Nat.le_trans h.size hg.size, fun k hk hn => (hg.block k (Nat.lt_of_lt_of_le hk h.size) (fun e => by rcases hr k e.symm with h1 | h1; exact hn h1; omega)).trans (h.block k hk hn)⟩
theorem Kept.cell {S : List Nat} {w w' : World} (h : Kept S w w') (b o : Nat) (hb : b < w.heap.size) (hs : b ∉ S) : w'.cell? ⟨b, o, none⟩ = w.cell? ⟨b, o, none⟩ := World.cell?_of_block (w := w) (h.block b hb hs)
theorem Kept.frozen {S : List Nat} {w w' : World} (h : Kept S w w') (b o : Nat) (hb : b < w.heap.size) (hs : b ∉ S) : w'.frozen? ⟨b, o, none⟩ = w.frozen? ⟨b, o, none⟩ := World.frozen?_of_block (w := w) (h.block b hb hs)
theorem Kept.below {S : List Nat} {w w' : World} {B : Nat} (h : Kept S w w') (hB : B ≤ w.heap.size) (hs : ∀ k, k ∈ S → B ≤ k) : Below B w w' :=
  ⟨h.os, h.tape, h.output, h.size, fun k hk => h.block k (by omega) (fun hm => by have := hs k hm; omega)⟩
theorem Kept.owns {S : List Nat} {w w' : World} {base e size g n cap : Nat} {xs : List Value} (h : Kept S w w') (hs : g ∉ S) (ho : w.ownsRow base e size (.slice (some ⟨g, 0, none⟩) n cap) n xs) : w'.ownsRow base e size (.slice (some ⟨g, 0, none⟩) n cap) n xs := by
  have hlt := (ho.lt g rfl).2
  refine ⟨ho.1, ?_⟩
  rcases ho.2 with h1 | ⟨g', cap', cur, e1, e2, e3, rest⟩
  · exact .inl h1
  · cases e1
    exact .inr ⟨g, cap, cur, rfl, e2, (h.block g hlt hs).trans e3, rest⟩
theorem Kept.nums {S : List Nat} {w w' : World} {b : Nat} {xs : List Int} (h : Kept S w w') (hb : b < w.heap.size) (hs : b ∉ S) (hx : Nums w b xs) : Nums w' b xs :=
  fun i hi => (h.cell b i hb hs).trans (hx i hi)

theorem Ybaf.info3 : (Ybaf.prog.info? 3).map (fun i => (i.zero, i.size, i.bytes)) = some (some (.int .i64 0), 1, 8) := by kernel_rfl
theorem Ybaf.info2 : (Ybaf.prog.info? 2).map (fun i => (i.zero, i.size, i.bytes)) = some (some (.int .i64 0), 1, 8) := by kernel_rfl

set_option maxRecDepth 100000 in
set_option maxHeartbeats 1600000 in
theorem levels_any (n : Nat) (w : World) (h1 : 1 ≤ n) (h2 : n ≤ 1000) :
    Calls Ybaf.prog 38 #[.int .i64 n, .int .i64 0, .bool false] w fun e w' => ∃ g cap, e = .returned (.tuple #[.slice (some ⟨g, 0, none⟩) 1 cap, .bool true]) ∧ w.heap.size ≤ g ∧ g < w'.heap.size ∧ w'.cell? ⟨g, 0, none⟩ = some (.int .i64 n) ∧ Kept [] w w' := by
  obtain ⟨i0, hi, hz0, hz1, hz2⟩ := info_parts Ybaf.info3
  go_enter Ybaf.func38, Ybaf.ntmps38
  go_wp2
  go_loopw [6, 8, 9] (fun v l k wr => (v = .slice none 0 0 ∧ l = .int .i64 1 ∧ k = .int .i64 1 ∧ wr = w) ∨ (∃ v0, v = v0 ∧ l = .int .i64 n ∧ k = .int .i64 2 ∧ Hid (wr.ownsRow w.heap.size 3 1 v0 1 [.int .i64 n]) ∧ Hid (Kept [] w wr))) (fun _ _ k _ => 2 - (intOf k).toNat)
  case atStart => exact .inl ⟨rfl, rfl, rfl, rfl⟩
  case round =>
    rcases hrel with ⟨rfl, rfl, rfl, rfl⟩ | ⟨v0, rfl, rfl, rfl, hown, hkept⟩
    · have hq : 1 ≤ (9223372036854775807 : Int) / n := (Int.le_ediv_iff_mul_le (by omega)).2 (by omega)
      have hq2 : ¬ ((n : Int) = 0) := by omega
      go_wp2_with (at_builtin; refine wpList_append_own _ rfl _ _ 70 rfl wr.heap.size 3 i0 (.int .i64 0) 1 8 Ybaf.underlying70 hi hz0 hz1 hz2 rfl (by decide) _ _ _ rfl ((World.ownsRow_nil wr wr.heap.size 3 1).alloc _) ⟨wr.heap.size, 0, none⟩ 1 1 [.int .i64 (n : Int)] rfl rfl ?c1 ?c2 ?c3 ?c4 ?c5 ?_)
      case c1 =>
        intro j u hj
        match j, hj with
        | 0, hj => simp at hj; subst hj; simp [Addr.add]
      case c2 => intro u hu; simp at hu; subst hu; rfl
      case c3 => unfold maxLen; omega
      case c4 => omega
      case c5 => simp
      · intro v' w1 hown' hgrow hlast
        have hk : Hid (Kept [] wr w1) := ((Kept.refl _ _).alloc _).grown hgrow (fun k hk => by cases hk)
        have ho : Hid _ := hown'
        clear hown' hgrow
        go_wp2
        go_roundw
        case rel => exact .inr ⟨_, rfl, rfl, rfl, ho.out, hk.out⟩
        case measure => simp [intOf]
    · go_wp2
      go_ret2
      obtain ⟨hlen, h | ⟨g, cap, cur, rfl, hb, hg, hc, hm, hs, ht⟩⟩ := hown.out
      · exact absurd h.2 (by omega)
      · refine ⟨g, cap, rfl, hb, ?_, ?_, hkept.out⟩
        · exact (hown.out.lt g rfl).2
        · simpa using hown.out.cellAt 0 (by omega)
end Go.Proofs.YbulkbnxwFmt
