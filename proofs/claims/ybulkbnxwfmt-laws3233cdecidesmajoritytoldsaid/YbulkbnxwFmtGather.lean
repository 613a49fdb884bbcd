import Derived.Test.YbulkbnxwFmtGstore
namespace Go.Proofs.YbulkbnxwFmt
open Go.RowKit

/-- A message: its sender, whether its kind is the value kind, its value. -/
structure Msg where
  id : Nat
  val : Bool
  v : Int
def kindS (b : Bool) : ByteArray := if b then ⟨#[118, 97, 108, 117, 101]⟩ else ⟨#[114, 101, 108, 97, 121]⟩
structure MsgAt (w : World) (M k : Nat) (m : Msg) : Prop where
  m0 : w.cell? ⟨M, k * 6, none⟩ = some (.int .i64 1)
  m1 : w.cell? ⟨M, k * 6 + 1, none⟩ = some (.int .i64 0)
  m2 : w.cell? ⟨M, k * 6 + 2, none⟩ = some (.int .i64 m.id)
  m3 : w.cell? ⟨M, k * 6 + 3, none⟩ = some (.int .i64 1)
  m4 : w.cell? ⟨M, k * 6 + 4, none⟩ = some (.string (kindS m.val))
  m5 : w.cell? ⟨M, k * 6 + 5, none⟩ = some (.iface 68 (.agg #[.int .i64 m.v, .int .i64 0]))
def MsgsAt (w : World) (M : Nat) (ms : List Msg) : Prop := ∀ k m, ms[k]? = some m → MsgAt w M k m
theorem MsgsAt.held {Z : Nat} {S : List Nat} {w w' : World} {M : Nat} {ms : List Msg} (h : MsgsAt w M ms) (k : Held Z S w w') (hz : M < Z) (hs : M ∉ S) : MsgsAt w' M ms :=
  fun i m hm => let x := h i m hm
    ⟨(k.cell M _ hz hs).trans x.m0, (k.cell M _ hz hs).trans x.m1, (k.cell M _ hz hs).trans x.m2, (k.cell M _ hz hs).trans x.m3, (k.cell M _ hz hs).trans x.m4, (k.cell M _ hz hs).trans x.m5⟩
def upd (f : Nat → Option Int) (m : Msg) : Nat → Option Int := if m.val then (fun j => if j = m.id - 1 then some m.v else f j) else f
def updAll (f : Nat → Option Int) (ms : List Msg) : Nat → Option Int := ms.foldl upd f
theorem updAll_take (f : Nat → Option Int) (ms : List Msg) (k : Nat) (m : Msg) (h : ms[k]? = some m) : updAll f (ms.take (k + 1)) = upd (updAll f (ms.take k)) m := by
  unfold updAll
  rw [List.take_add_one, h, List.foldl_append]; rfl

theorem proc_kept {S : List Nat} {w w' : World} {P E T Z : Nat} {d : Int} (h : ∃ lab, ProcAt w P E T d lab ∧ LabAt w Z lab) (k : Kept S w w') (hP : P ∉ S) (hS : ∀ x, x ∈ S → x < Z) : ∃ lab, ProcAt w' P E T d lab ∧ LabAt w' Z lab := by
  obtain ⟨lab, hp, hl⟩ := h
  refine ⟨lab, hp.kept k hP, ?_⟩
  rcases hl with rfl | ⟨G, cap, y, rfl, ho⟩
  · exact .inl rfl
  · exact .inr ⟨G, cap, y, rfl, k.owns (fun hm => by have := hS G hm; have := (ho.lt G rfl).1; omega) ho⟩

theorem assert68 (x : Value) (w : World) : (Instr.typeAssert (.iface 68 x) 20 68 true).run Ybaf.prog w = .ok (.tuple #[x, .bool true]) w := by kernel_rfl

set_option maxRecDepth 100000 in
set_option maxHeartbeats 1600000 in
theorem gather_any (P E T L D n Z M q c : Nat) (d : Int) (ms : List Msg) (f : Nat → Option Int) (w : World) (hp : Hid (∃ lab, ProcAt w P E T d lab ∧ LabAt w Z lab)) (ht : Hid (TreeAt w T L D n f)) (hms : Hid (MsgsAt w M ms)) (hq : Hid (ms.length = q)) (hids : Hid (∀ m ∈ ms, 1 ≤ m.id ∧ m.id ≤ n))
    (hZ : Z ≤ w.heap.size) (zP : P < Z) (zT : T < Z) (zL : L < Z) (zD : D < Z) (zM : M < Z) (nPT : Hid (P ≠ T ∧ P ≠ L ∧ P ≠ D)) (nM : Hid (M ≠ P ∧ M ≠ D)) (hn : n ≤ 1000) (hqn : q ≤ 1000) :
    Calls Ybaf.prog 26 #[.pointer (some ⟨P, 0, none⟩), .int .i64 1, .slice (some ⟨M, 0, none⟩) q c] w fun e w' => e = .returned (.tuple #[]) ∧ Hid (∃ lab, ProcAt w' P E T d lab ∧ LabAt w' Z lab) ∧ Hid (TreeAt w' T L D n (updAll f ms)) ∧ Hid (Held Z [P, D] w w') := by
  have ta := assert68
  go_enter Ybaf.func26, Ybaf.ntmps26
  go_wp2
  go_loopw [16] (fun i wr => ∃ k : Nat, k ≤ q ∧ i = .int .i64 k ∧ Hid (∃ lab, ProcAt wr P E T d lab ∧ LabAt wr Z lab) ∧ Hid (TreeAt wr T L D n (updAll f (ms.take k))) ∧ Hid (Held Z [P, D] w wr)) (fun i _ => q - (intOf i).toNat)
  case atStart => exact ⟨0, Nat.zero_le _, rfl, hp, ht, Held.refl _ _ _⟩
  case round =>
    obtain ⟨k, hk, rfl, hp1, ht1, hh1⟩ := hrel
    by_cases hlt : k < q
    · obtain ⟨m, hm⟩ : ∃ m, Hid (ms[k]? = some m) := ⟨ms[k]'(by rw [hq.out]; exact hlt), List.getElem?_eq_getElem _⟩
      have hmr : Hid (MsgsAt wr M ms) := hms.out.held hh1.out zM (by have := nM.out; simp; omega)
      obtain ⟨m0, m1, m2, m3, m4, m5⟩ := hmr.out k m hm.out
      obtain ⟨i1, i2⟩ := hids.out m (List.mem_of_getElem? hm.out)
      obtain ⟨id, val, v⟩ := m
      simp only at m0 m1 m2 m3 m4 m5 i1 i2
      have hZ1 : Z ≤ wr.heap.size := Nat.le_trans hZ hh1.out.size
      cases val
      · have m4' : wr.cell? ⟨M, k * 6 + 4, none⟩ = some (.string ⟨#[114, 101, 108, 97, 121]⟩) := m4
        clear m4
        have hka : Kept [] wr ((wr.alloc (.cells #[.int .i64 1, .int .i64 0, .int .i64 id, .int .i64 1, .string ⟨#[114, 101, 108, 97, 121]⟩, .iface 68 (.agg #[.int .i64 v, .int .i64 0])] 79)).alloc (.cells #[.int .i64 v, .int .i64 0] 68)) := ((Kept.refl _ _).alloc _).alloc _
        have hp2 : Hid _ := proc_kept hp1.out hka (by simp) (by simp)
        have ht2 : Hid _ := ht1.out.kept hka (by simp) (by simp) (by simp)
        have hh2 : Hid (Held Z [P, D] w _) := hh1.out.trans (hka.held Z hZ1 (by simp))
        clear hka
        go_wp2
        case roundEnd =>
          refine ⟨⟨k + 1, hlt, by go_num, hp2.out, ?_, hh2.out⟩, by simp [intOf]; omega⟩
          have e : updAll f (ms.take (k + 1)) = updAll f (ms.take k) := updAll_take f ms k _ hm.out
          rw [e]; exact ht2.out
      · have m4' : wr.cell? ⟨M, k * 6 + 4, none⟩ = some (.string ⟨#[118, 97, 108, 117, 101]⟩) := m4
        clear m4
        have hka : Kept [] wr ((wr.alloc (.cells #[.int .i64 1, .int .i64 0, .int .i64 id, .int .i64 1, .string ⟨#[118, 97, 108, 117, 101]⟩, .iface 68 (.agg #[.int .i64 v, .int .i64 0])] 79)).alloc (.cells #[.int .i64 v, .int .i64 0] 68)) := ((Kept.refl _ _).alloc _).alloc _
        have hp2 : Hid _ := proc_kept hp1.out hka (by simp) (by simp)
        have ht2 : Hid _ := ht1.out.kept hka (by simp) (by simp) (by simp)
        have hh2 : Hid (Held Z [P, D] w _) := hh1.out.trans (hka.held Z hZ1 (by simp))
        have hZ2 := Nat.le_trans hZ1 hka.size
        clear hka
        go_wp2_with fail
        refine (gstore_any P E T L D n Z id d v _ _ hp2 ht2 hZ2 zP zT zL zD nPT i1 i2 hn).mono ?_
        rintro e w3 ⟨rfl, hp3, ht3, hh3⟩
        have hh4 : Hid _ := hh2.out.trans hh3.out
        clear hh2 hh3 hp2 ht2 hZ2
        go_wp2
        go_roundw
        case rel =>
          refine ⟨k + 1, hlt, by go_num, hp3.out, ?_, hh4.out⟩
          have e : updAll f (ms.take (k + 1)) = fun j => if j = id - 1 then some v else updAll f (ms.take k) j := updAll_take f ms k _ hm.out
          rw [e]; exact ht3.out
        case measure => simp [intOf]; omega
    · obtain rfl : k = q := by omega
      go_wp2
      go_end0
      refine ⟨rfl, hp1, ?_, hh1⟩
      have := ht1.out
      rwa [List.take_of_length_le (by rw [hq.out]; exact Nat.le_refl _)] at this
end Go.Proofs.YbulkbnxwFmt
