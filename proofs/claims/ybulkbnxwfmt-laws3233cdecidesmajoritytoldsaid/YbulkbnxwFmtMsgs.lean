import Derived.Test.YbulkbnxwFmtSt
namespace Go.Proofs.YbulkbnxwFmt
open Go.RowKit

theorem Ybaf.info79 : (Ybaf.prog.info? 79).map (fun i => (i.zero, i.size, i.bytes)) = some (some (.agg #[.int .i64 0, .int .i64 0, .int .i64 0, .int .i64 0, .string ⟨#[]⟩, .nilIface]), 6, 64) := by kernel_rfl
theorem make50 (n : Nat) (hn : n ≤ 1000) (w : World) : (Instr.makeSlice 50 (.int .i64 0) (.int .i64 n)).run Ybaf.prog w = .ok (.slice (some ⟨w.heap.size, 0, none⟩) 0 n) (w.alloc (.cells (madeCells #[.int .i64 0, .int .i64 0, .int .i64 0, .int .i64 0, .string ⟨#[]⟩, .nilIface] (n * 6)) 79)) := by
  obtain ⟨i0, hi, hz0, hz1, hz2⟩ := info_parts Ybaf.info79
  have := run_make (P := Ybaf.prog) w 50 79 i0 _ Ybaf.underlying50 hi hz0 .i64 .i64 0 n (by omega) (by omega) (by rw [hz2]; omega) (by omega)
  have e : (Value.agg #[Value.int .i64 0, .int .i64 0, .int .i64 0, .int .i64 0, .string ⟨#[]⟩, .nilIface]).cells = #[Value.int .i64 0, .int .i64 0, .int .i64 0, .int .i64 0, .string ⟨#[]⟩, .nilIface] := by rfl
  rw [hz1, e, Int.toNat_natCast] at this
  exact this

/-- A slice that came in, as far as it is read. -/
def Row (k : IntKind) (w : World) (a : Option Addr) (len : Nat) : Prop :=
  ∀ i, i < len → ∃ b off z, a = some ⟨b, off, none⟩ ∧ b < w.heap.size ∧ w.cell? ⟨b, off + i, none⟩ = some (.int k z)

theorem st_start (w : World) (n : Nat) (d : Int) (hn : n ≤ 1000) : St w ((w.alloc (.cells (madeCells #[.int .i64 0, .int .i64 0, .int .i64 0, .int .i64 0, .string ⟨#[]⟩, .nilIface] (n * 6)) 79)).alloc (.cells (madeCells #[.int .i64 0] n) 2)) n 0 0 d [] := by
  refine ⟨⟨[], ?_, fun k m h => by simp at h⟩, ⟨(madeCells #[Value.int .i64 0] n).toList, ?_, fun i hi => absurd hi (Nat.not_lt_zero _)⟩, rfl, fun m hm => by simp at hm, Nat.le_refl _, ((Kept.refl _ _).alloc _).alloc _⟩
  · exact (World.ownsRow_made (base := 0) (e := 79) (size := 6) w (madeCells #[.int .i64 0, .int .i64 0, .int .i64 0, .int .i64 0, .string ⟨#[]⟩, .nilIface] (n * 6)) n (Nat.zero_le _) (by unfold maxLen; omega) (size_madeCells _ _)).alloc _
  · have := World.ownsRow_lit (base := 0) (e := 2) (size := 1) (w.alloc (.cells (madeCells #[.int .i64 0, .int .i64 0, .int .i64 0, .int .i64 0, .string ⟨#[]⟩, .nilIface] (n * 6)) 79)) (madeCells #[Value.int .i64 0] n) n (Nat.zero_le _) (by unfold maxLen; omega) (by rw [size_madeCells]; omega)
    simpa [World.size_alloc] using this

theorem news_at (w : World) (cs : Array Value) (t : TypeId) (b : Nat) (hb : b = w.heap.size) : ∀ j u, cs.toList[j]? = some u → (w.alloc (.cells cs t)).cell? ((⟨b, 0, none⟩ : Addr).add j) = some u := by
  intro j u hu
  have e : (⟨b, 0, none⟩ : Addr).add j = ⟨b, j, none⟩ := by unfold Addr.add; split <;> simp_all
  subst hb
  rw [e, World.cell?_alloc_new]
  simpa using hu
def msgCells (k v : Int) (s : ByteArray) : Array Value := #[.int .i64 1, .int .i64 0, .int .i64 (k + 1), .int .i64 1, .string s, .iface 68 (.agg #[.int .i64 v, .int .i64 0])]
theorem msgCells_one (k v : Int) (s : ByteArray) : ∀ u ∈ (msgCells k v s).toList, u.oneCell' = true := by
  intro u hu
  simp [msgCells] at hu
  rcases hu with rfl | rfl | rfl | rfl | rfl | rfl <;> rfl
theorem msgCells_of (k : Nat) (v : Int) (b : Bool) : (msgCells k v (kindS b)).toList = cellsOf ⟨k + 1, b, v⟩ := by
  simp [msgCells, cellsOf]

def heldOf (ms : List Msg) (n : Nat) (d : Int) : List Int := (List.range n).map fun i => (updAll start ms i).getD d

set_option maxRecDepth 100000 in
set_option maxHeartbeats 3200000 in
theorem msgs_any (n l1 c1 l2 c2 : Nat) (a1 a2 : Option Addr) (d : Int) (w : World) (r1 : Hid (Row .i64 w a1 l1)) (r2 : Hid (Row .u8 w a2 l2)) (h1 : l1 ≤ 1024) (_h2 : l2 ≤ 1024) (hn : n ≤ 1000) :
    Calls Ybaf.prog 11 #[.int .i64 n, .slice a1 l1 c1, .slice a2 l2 c2, .int .i64 d] w fun e w' => ∃ ms q, e = .returned (.tuple #[.slice (some ⟨w.heap.size, 0, none⟩) q n, .slice (some ⟨w.heap.size + 1, 0, none⟩) n n]) ∧ Hid (MsgsAt w' w.heap.size ms) ∧ Hid (ms.length = q) ∧ q ≤ n ∧ Hid (∀ m ∈ ms, 1 ≤ m.id ∧ m.id ≤ n) ∧ Hid (Nums w' (w.heap.size + 1) (heldOf ms n d)) ∧ w.heap.size + 1 < w'.heap.size ∧ Hid (Kept [] w w') := by
  obtain ⟨i0, hi, hz0, hz1, hz2⟩ := info_parts Ybaf.info79
  have hm50 := make50 n hn
  have hm38 := make38 n hn
  go_enter Ybaf.func11, Ybaf.ntmps11
  go_wp2
  clear hm50 hm38
  have hst : Hid _ := st_start w n d hn
  go_loopw [10, 12] (fun v i wr => ∃ (k q : Nat) (ms : List Msg), k ≤ n ∧ q ≤ k ∧ i = .int .i64 ((k : Int) + 1) ∧ v = .slice (some ⟨w.heap.size, 0, none⟩) q n ∧ Hid (St w wr n k q d ms)) (fun _ i _ => n + 1 - (intOf i).toNat)
  case atStart => exact ⟨0, 0, [], Nat.zero_le _, Nat.le_refl _, rfl, rfl, hst⟩
  case round =>
    clear hst
    obtain ⟨k, q, ms, hk, hqk, rfl, rfl, hs⟩ := hrel
    by_cases hlt : k < n
    · obtain ⟨⟨u, hu⟩, hfz⟩ := hs.out.cell k hlt
      have hs1 : Hid _ := hs.out.def hlt
      by_cases hl1 : k < l1
      · obtain ⟨b1, o1, v, rfl, hb1, hc1⟩ := r1.out k hl1
        have hv1 : (wr.setCell ⟨w.heap.size + 1, k, none⟩ (.int .i64 d)).cell? ⟨b1, o1 + k, none⟩ = some (.int .i64 v) := (hs1.out.kept.cell b1 _ hb1 (by simp)).trans hc1
        have hv0 : wr.cell? ⟨b1, o1 + k, none⟩ = some (.int .i64 v) := (hs.out.kept.cell b1 _ hb1 (by simp)).trans hc1
        clear hc1
        by_cases hl2 : k < l2
        · obtain ⟨b2, o2, z, rfl, hb2, hc2⟩ := r2.out k hl2
          have hz0' : wr.cell? ⟨b2, o2 + k, none⟩ = some (.int .u8 z) := (hs.out.kept.cell b2 _ hb2 (by simp)).trans hc2
          clear hc2
          by_cases z0 : z.tmod 3 = 0
          · skip
            obtain ⟨ys, ho1', hf⟩ := hs1.out.own1
            have ho1 : Hid ((wr.setCell ⟨w.heap.size + 1, k, none⟩ (.int .i64 d)).ownsRow 0 79 6 (.slice (some ⟨w.heap.size, 0, none⟩) q n) q ys) := ho1'
            clear ho1'
            go_wp2_with (first
              | (at_builtin; refine wpList_append_fits _ rfl (.tmp 47) (.tmp 57) 50 rfl 0 79 i0 6 Ybaf.underlying50 hi hz1 w.heap.size q n ys rfl (ho1.out.alloc _) ⟨wr.heap.size, 0, none⟩ 1 1 (msgCells k v ⟨#[118, 97, 108, 117, 101]⟩).toList rfl rfl (news_at _ (msgCells k v ⟨#[118, 97, 108, 117, 101]⟩) 79 _ (by simp)) (msgCells_one k v ⟨#[118, 97, 108, 117, 101]⟩) (by omega) ?_))
            intro w3 hown3 hgrow3
            have hn3 : Hid _ := hs1.out.value (v := v) _ hlt hqk ys hf ho1.out (by have := hown3; rw [show (msgCells k v ⟨#[118, 97, 108, 117, 101]⟩).toList = cellsOf ⟨k + 1, true, v⟩ from msgCells_of k v true] at this; exact this) hgrow3
            obtain ⟨⟨u3, hu3⟩, hz3⟩ := hn3.out.2
            have hv3 : w3.cell? ⟨b1, o1 + k, none⟩ = some (.int .i64 v) := (hgrow3.cell (a := ⟨b1, o1 + k, none⟩) (v := .int .i64 v) (by rw [((Kept.refl [] _).alloc _).cell b1 _ (by simp; have := hs.out.kept.size; omega) (by simp)]; exact hv1) (by intro e; have h9 : b1 = w.heap.size := Option.some.inj e; omega))
            clear hown3 hgrow3 hv1 hv0 hu hfz
            go_wp2
            go_roundw
            case rel => exact ⟨k + 1, q + 1, _, hlt, by omega, by go_num, rfl, hn3.out.1⟩
            case measure => simp [intOf]; omega
          by_cases z1 : z.tmod 3 = 1
          · skip
            obtain ⟨ys, ho1', hf⟩ := hs1.out.own1
            have ho1 : Hid ((wr.setCell ⟨w.heap.size + 1, k, none⟩ (.int .i64 d)).ownsRow 0 79 6 (.slice (some ⟨w.heap.size, 0, none⟩) q n) q ys) := ho1'
            clear ho1'
            go_wp2_with (first
              | (at_builtin; refine wpList_append_fits _ rfl (.tmp 70) (.tmp 80) 50 rfl 0 79 i0 6 Ybaf.underlying50 hi hz1 w.heap.size q n ys rfl (ho1.out.alloc _) ⟨wr.heap.size, 0, none⟩ 1 1 (msgCells k v ⟨#[114, 101, 108, 97, 121]⟩).toList rfl rfl (news_at _ (msgCells k v ⟨#[114, 101, 108, 97, 121]⟩) 79 _ (by simp)) (msgCells_one k v ⟨#[114, 101, 108, 97, 121]⟩) (by omega) ?_))
            intro w3 hown3 hgrow3
            have hn3 : Hid _ := hs1.out.relay (v := v) _ hqk ys hf ho1.out (by have := hown3; rw [show (msgCells k v ⟨#[114, 101, 108, 97, 121]⟩).toList = cellsOf ⟨k + 1, false, v⟩ from msgCells_of k v false] at this; exact this) hgrow3
            clear hown3 hgrow3 hv1 hv0 hu hfz
            go_wp2
            go_roundw
            case rel => exact ⟨k + 1, q + 1, _, hlt, by omega, by go_num, rfl, hn3.out⟩
            case measure => simp [intOf]; omega
          go_wp2
          go_roundw
          case rel => exact ⟨k + 1, q, ms, hlt, by omega, by go_num, rfl, hs1.out⟩
          case measure => simp [intOf]; omega
        · skip
          obtain ⟨ys, ho1', hf⟩ := hs1.out.own1
          have ho1 : Hid ((wr.setCell ⟨w.heap.size + 1, k, none⟩ (.int .i64 d)).ownsRow 0 79 6 (.slice (some ⟨w.heap.size, 0, none⟩) q n) q ys) := ho1'
          clear ho1'
          go_wp2_with (first
            | (at_builtin; refine wpList_append_fits _ rfl (.tmp 47) (.tmp 57) 50 rfl 0 79 i0 6 Ybaf.underlying50 hi hz1 w.heap.size q n ys rfl (ho1.out.alloc _) ⟨wr.heap.size, 0, none⟩ 1 1 (msgCells k v ⟨#[118, 97, 108, 117, 101]⟩).toList rfl rfl (news_at _ (msgCells k v ⟨#[118, 97, 108, 117, 101]⟩) 79 _ (by simp)) (msgCells_one k v ⟨#[118, 97, 108, 117, 101]⟩) (by omega) ?_))
          intro w3 hown3 hgrow3
          have hn3 : Hid _ := hs1.out.value (v := v) _ hlt hqk ys hf ho1.out (by have := hown3; rw [show (msgCells k v ⟨#[118, 97, 108, 117, 101]⟩).toList = cellsOf ⟨k + 1, true, v⟩ from msgCells_of k v true] at this; exact this) hgrow3
          obtain ⟨⟨u3, hu3⟩, hz3⟩ := hn3.out.2
          have hv3 : w3.cell? ⟨b1, o1 + k, none⟩ = some (.int .i64 v) := (hgrow3.cell (a := ⟨b1, o1 + k, none⟩) (v := .int .i64 v) (by rw [((Kept.refl [] _).alloc _).cell b1 _ (by simp; have := hs.out.kept.size; omega) (by simp)]; exact hv1) (by intro e; have h9 : b1 = w.heap.size := Option.some.inj e; omega))
          clear hown3 hgrow3 hv1 hv0 hu hfz
          go_wp2
          go_roundw
          case rel => exact ⟨k + 1, q + 1, _, hlt, by omega, by go_num, rfl, hn3.out.1⟩
          case measure => simp [intOf]; omega
      · go_wp2
        go_roundw
        case rel => exact ⟨k + 1, q, ms, hlt, by omega, by go_num, rfl, hs1.out⟩
        case measure => simp [intOf]; omega
    · obtain rfl : k = n := by omega
      go_wp2
      go_ret2
      obtain ⟨ys, o1, hf⟩ := hs.out.own1
      obtain ⟨xs, o2, hx⟩ := hs.out.own2
      refine ⟨ms, q, rfl, hf.msgs hs.out.len o1, hs.out.len, hqk, hs.out.ids, ?_, hs.out.sz, hs.out.kept⟩
      intro i hi
      have hi' : i < k := by simpa [heldOf] using hi
      rw [o2.cellAt i (by omega), hx i hi']
      simp [heldOf, List.getD, hi']
end Go.Proofs.YbulkbnxwFmt
