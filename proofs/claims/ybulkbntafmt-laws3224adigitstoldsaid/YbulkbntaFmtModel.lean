import Derived.Test.YbulkbntaFmtSet
namespace Go.Proofs.YbulkbntaFmt
open Go.RowKit Go.Lib Go.Extern.Stop Go.Stop Go.Extern

theorem take_snoc (s : ByteArray) (k : Nat) (h : k < s.size) : s.data.toList.take (k + 1) = s.data.toList.take k ++ [s[k]] := by
  rw [List.take_succ_eq_append_getElem (by simpa using h)]; rfl

/-- The loop's relation: the first k bytes are digits; what they spell, or that it is too great. -/
def Rel (d : ByteArray) (v o i : Value) : Prop :=
  ∃ k : Nat, k ≤ d.size ∧ i = .int .i64 k ∧ (d.data.toList.take k).all isDig = true ∧
    ((∃ x : Nat, o = .bool false ∧ v = .int .i64 x ∧ x = val 0 (d.data.toList.take k) ∧ x ≤ maxI) ∨ (∃ x : Int, o = .bool true ∧ v = .int .i64 x ∧ maxI < val 0 (d.data.toList.take k)))

theorem rel_start (d : ByteArray) : Rel d (.int .i64 0) (.bool false) (.int .i64 0) :=
  ⟨0, Nat.zero_le _, rfl, by simp, Or.inl ⟨0, rfl, rfl, by simp [val_nil], by decide⟩⟩
theorem all_snoc (d : ByteArray) (k : Nat) (hk : k < d.size) (ha : (d.data.toList.take k).all isDig = true) (h1 : 48 ≤ (d[k].toNat : Int)) (h2 : (d[k].toNat : Int) ≤ 57) : (d.data.toList.take (k + 1)).all isDig = true := by
  rw [take_snoc d k hk, List.all_append, ha]
  simp [isDig]; omega
theorem val_step (d : ByteArray) (k : Nat) (hk : k < d.size) : val 0 (d.data.toList.take (k + 1)) = val 0 (d.data.toList.take k) * 10 + (d[k].toNat - 48) := by
  rw [take_snoc d k hk, val_snoc]
theorem rel_add (d : ByteArray) (k x : Nat) (hk : k < d.size) (ha : (d.data.toList.take k).all isDig = true) (h1 : 48 ≤ (d[k].toNat : Int)) (h2 : (d[k].toNat : Int) ≤ 57) (hx : x = val 0 (d.data.toList.take k))
    (hle : (x : Int) * 10 + ((d[k].toNat : Int) - 48) ≤ 9223372036854775807) : Rel d (.int .i64 ((x : Int) * 10 + ((d[k].toNat : Int) - 48))) (.bool false) (.int .i64 ((k : Int) + 1)) := by
  refine ⟨k + 1, hk, by go_num, all_snoc d k hk ha h1 h2, Or.inl ⟨x * 10 + (d[k].toNat - 48), rfl, ?_, ?_, ?_⟩⟩
  · have : (x : Int) * 10 + ((d[k].toNat : Int) - 48) = ((x * 10 + (d[k].toNat - 48) : Nat) : Int) := by omega
    rw [this]
  · rw [val_step d k hk, hx]
  · unfold maxI; omega
theorem rel_over (d : ByteArray) (k x : Nat) (y : Int) (hk : k < d.size) (ha : (d.data.toList.take k).all isDig = true) (h1 : 48 ≤ (d[k].toNat : Int)) (h2 : (d[k].toNat : Int) ≤ 57) (hx : x = val 0 (d.data.toList.take k))
    (hle : 9223372036854775807 < (x : Int) * 10 + ((d[k].toNat : Int) - 48)) : Rel d (.int .i64 y) (.bool true) (.int .i64 ((k : Int) + 1)) := by
  refine ⟨k + 1, hk, by go_num, all_snoc d k hk ha h1 h2, Or.inr ⟨y, rfl, rfl, ?_⟩⟩
  rw [val_step d k hk, ← hx]
  unfold maxI; omega
theorem rel_still (d : ByteArray) (k : Nat) (y : Int) (hk : k < d.size) (ha : (d.data.toList.take k).all isDig = true) (h1 : 48 ≤ (d[k].toNat : Int)) (h2 : (d[k].toNat : Int) ≤ 57) (hx : maxI < val 0 (d.data.toList.take k)) : Rel d (.int .i64 y) (.bool true) (.int .i64 ((k : Int) + 1)) := by
  refine ⟨k + 1, hk, by go_num, all_snoc d k hk ha h1 h2, Or.inr ⟨y, rfl, rfl, ?_⟩⟩
  rw [val_step d k hk]
  unfold maxI at *; omega

/-- What the model answers for digits d behind a minus or none. -/
def Ans (d : ByteArray) (neg : Bool) (e : Ending) : Prop :=
  if d.data.toList.all isDig = true ∧ ¬ maxI < val 0 d.data.toList ∧ ¬ (neg = true ∧ val 0 d.data.toList ≠ 0) then e = .returned (.tuple #[.int .i64 (val 0 d.data.toList : Int), .bool true])
  else e = .returned (.tuple #[.int .i64 0, .bool false])
theorem ans_bad (d : ByteArray) (neg : Bool) (k : Nat) (hk : k < d.size) (h : isDig d[k] = false) : Ans d neg (.returned (.tuple #[.int .i64 0, .bool false])) := by
  unfold Ans
  rw [if_neg]
  rintro ⟨ha, _⟩
  rw [(all_iff d).1 ha k hk] at h; cases h
theorem rel_end (d : ByteArray) (k : Nat) (hk : k ≤ d.size) (h : ¬ k < d.size) : d.data.toList.take k = d.data.toList := by
  apply List.take_of_length_le
  have : d.data.toList.length = d.size := rfl
  omega
theorem ans_over (d : ByteArray) (neg : Bool) (k : Nat) (hk : k ≤ d.size) (h : ¬ k < d.size) (hx : maxI < val 0 (d.data.toList.take k)) : Ans d neg (.returned (.tuple #[.int .i64 0, .bool false])) := by
  unfold Ans
  rw [rel_end d k hk h] at hx
  rw [if_neg]
  rintro ⟨_, h2, _⟩
  exact h2 hx
theorem ans_neg (d : ByteArray) (k x : Nat) (hk : k ≤ d.size) (h : ¬ k < d.size) (hx : x = val 0 (d.data.toList.take k)) (h0 : ¬ (x : Int) = 0) : Ans d true (.returned (.tuple #[.int .i64 0, .bool false])) := by
  unfold Ans
  rw [rel_end d k hk h] at hx
  rw [if_neg]
  rintro ⟨_, _, h3⟩
  exact h3 ⟨rfl, by omega⟩
theorem ans_ok (d : ByteArray) (neg : Bool) (k x : Nat) (hk : k ≤ d.size) (h : ¬ k < d.size) (ha : (d.data.toList.take k).all isDig = true) (hx : x = val 0 (d.data.toList.take k)) (hm : x ≤ maxI) (h0 : ¬ (neg = true ∧ ¬ (x : Int) = 0)) : Ans d neg (.returned (.tuple #[.int .i64 (x : Int), .bool true])) := by
  unfold Ans
  rw [rel_end d k hk h] at hx ha
  rw [if_pos ⟨ha, by omega, fun ⟨h1, h2⟩ => h0 ⟨h1, by omega⟩⟩, hx]

set_option maxRecDepth 100000 in
set_option maxHeartbeats 1600000 in
theorem model_pos (s : ByteArray) (w : World) (hmax : s.size ≤ 281474976710656) (h0 : 0 < s.size) (hc : ¬ (s[0].toNat : Int) = 45) :
    Calls Ybaf.prog 7 #[.string s] w fun e w' => Ans s false e ∧ w' = w := by
  go_enter Ybaf.func7, Ybaf.ntmps7
  go_wp2
  have hmax' := hmax
  clear hc
  go_loop [6, 7, 8] (Rel s) (fun _ _ i => s.size - (intOf i).toNat)
  case atStart => exact rel_start s
  case round =>
    obtain ⟨k, hk0, rfl, ha0, hor⟩ := hrel
    have hk : Hid (k ≤ s.size) := hk0
    have ha : Hid _ := ha0
    have hkm : k ≤ 281474976710656 := by omega
    clear hk0 ha0
    by_cases hlt : k < s.size
    · by_cases hd1 : (s[k].toNat : Int) < 48
      · go_wp2
        go_ret2
        exact ⟨ans_bad s false k hlt (by simp [isDig]; omega), rfl⟩
      by_cases hd2 : 57 < (s[k].toNat : Int)
      · go_wp2
        go_ret2
        exact ⟨ans_bad s false k hlt (by simp [isDig]; omega), rfl⟩
      rcases hor with ⟨x, rfl, rfl, hx0, hm0⟩ | ⟨x, rfl, rfl, hx0⟩
      · have hx : Hid _ := hx0
        have hm : (x : Int) ≤ 9223372036854775807 := by unfold maxI at hm0; omega
        clear hx0 hm0
        go_wp2
        case roundEnd => 
          rename_i hq
          exact ⟨rel_over s k x x hlt ha.out (by omega) (by omega) hx.out (by omega), by simp [intOf]; omega⟩
        case roundEnd =>
          rename_i hq
          exact ⟨rel_add s k x hlt ha.out (by omega) (by omega) hx.out (by omega), by simp [intOf]; omega⟩
      · have hx : Hid _ := hx0
        clear hx0
        go_wp2
        go_round
        case rel => exact rel_still s k x hlt ha.out (by omega) (by omega) hx.out
        case measure => simp [intOf]; omega
    · rcases hor with ⟨x, rfl, rfl, hx0, hm0⟩ | ⟨x, rfl, rfl, hx0⟩
      · have hx : Hid _ := hx0
        have hm : Hid _ := hm0
        clear hx0 hm0
        · go_wp2
          go_ret2
          exact ⟨ans_ok s false k x hk.out hlt ha.out hx.out hm.out (by simp), rfl⟩
      · have hx : Hid _ := hx0
        clear hx0
        go_wp2
        go_ret2
        exact ⟨ans_over s false k hk.out hlt hx.out, rfl⟩

set_option maxRecDepth 100000 in
set_option maxHeartbeats 1600000 in
theorem model_neg (s : ByteArray) (w : World) (hmax : s.size ≤ 281474976710656) (h0 : 0 < s.size) (d : ByteArray) (hd : Hid (s.extract 1 s.size = d)) (hc : (s[0].toNat : Int) = 45) (h1 : ¬ s.size = 1) :
    Calls Ybaf.prog 7 #[.string s] w fun e w' => Ans d true e ∧ w' = w := by
  go_enter Ybaf.func7, Ybaf.ntmps7
  go_wp2
  rw [hd.out]
  have hmax' : d.size ≤ 281474976710656 := by
    rw [← hd.out, ByteArray.size_extract]; omega
  clear hd
  go_loop [6, 7, 8] (Rel d) (fun _ _ i => d.size - (intOf i).toNat)
  case atStart => exact rel_start d
  case round =>
    obtain ⟨k, hk0, rfl, ha0, hor⟩ := hrel
    have hk : Hid (k ≤ d.size) := hk0
    have ha : Hid _ := ha0
    have hkm : k ≤ 281474976710656 := by omega
    clear hk0 ha0
    by_cases hlt : k < d.size
    · by_cases hd1 : (d[k].toNat : Int) < 48
      · go_wp2
        go_ret2
        exact ⟨ans_bad d true k hlt (by simp [isDig]; omega), rfl⟩
      by_cases hd2 : 57 < (d[k].toNat : Int)
      · go_wp2
        go_ret2
        exact ⟨ans_bad d true k hlt (by simp [isDig]; omega), rfl⟩
      rcases hor with ⟨x, rfl, rfl, hx0, hm0⟩ | ⟨x, rfl, rfl, hx0⟩
      · have hx : Hid _ := hx0
        have hm : (x : Int) ≤ 9223372036854775807 := by unfold maxI at hm0; omega
        clear hx0 hm0
        go_wp2
        case roundEnd => 
          rename_i hq
          exact ⟨rel_over d k x x hlt ha.out (by omega) (by omega) hx.out (by omega), by simp [intOf]; omega⟩
        case roundEnd =>
          rename_i hq
          exact ⟨rel_add d k x hlt ha.out (by omega) (by omega) hx.out (by omega), by simp [intOf]; omega⟩
      · have hx : Hid _ := hx0
        clear hx0
        go_wp2
        go_round
        case rel => exact rel_still d k x hlt ha.out (by omega) (by omega) hx.out
        case measure => simp [intOf]; omega
    · rcases hor with ⟨x, rfl, rfl, hx0, hm0⟩ | ⟨x, rfl, rfl, hx0⟩
      · have hx : Hid _ := hx0
        have hm : Hid _ := hm0
        clear hx0 hm0
        · by_cases hz : (x : Int) = 0
          · obtain rfl : x = 0 := by omega
            go_wp2
            go_ret2
            exact ⟨ans_ok d true k 0 hk.out hlt ha.out hx.out hm.out (by simp), rfl⟩
          · go_wp2
            go_ret2
            exact ⟨ans_neg d k x hk.out hlt hx.out hz, rfl⟩
      · have hx : Hid _ := hx0
        clear hx0
        go_wp2
        go_ret2
        exact ⟨ans_over d true k hk.out hlt hx.out, rfl⟩

set_option maxRecDepth 100000 in
theorem model_bare (s : ByteArray) (w : World) (hc0 : 0 < s.size) (hc : (s[0].toNat : Int) = 45) (h1 : s.size = 1) :
    Calls Ybaf.prog 7 #[.string s] w fun e w' => e = .returned (.tuple #[.int .i64 0, .bool false]) ∧ w' = w := by
  go_enter Ybaf.func7, Ybaf.ntmps7
  go_wp2
  go_ret2
  exact ⟨rfl, rfl⟩
set_option maxRecDepth 100000 in
theorem model_empty (s : ByteArray) (w : World) (h1 : s.size = 0) :
    Calls Ybaf.prog 7 #[.string s] w fun e w' => e = .returned (.tuple #[.int .i64 0, .bool false]) ∧ w' = w := by
  go_enter Ybaf.func7, Ybaf.ntmps7
  go_wp2
  go_ret2
  exact ⟨rfl, rfl⟩

def Say (l : List UInt8) (e : Ending) : Prop :=
  match model l with
  | some v => e = .returned (.tuple #[.int .i64 (v : Int), .bool true])
  | none => e = .returned (.tuple #[.int .i64 0, .bool false])

theorem ans_say (l : List UInt8) (d : ByteArray) (e : Ending) (hd : d.data.toList = strip l) (hne : strip l ≠ []) (h : Ans d (isNeg l) e) : Say l e := by
  unfold Ans at h
  rw [hd] at h
  unfold Say model
  rw [if_neg hne]
  by_cases ha : (strip l).all isDig = true
  · rw [if_pos ha]
    by_cases hm : maxI < val 0 (strip l)
    · rw [if_pos hm]; rw [if_neg (fun h => h.2.1 hm)] at h; exact h
    · rw [if_neg hm]
      by_cases hn : isNeg l = true ∧ val 0 (strip l) ≠ 0
      · rw [if_pos (by simp [hn.1, hn.2])]; rw [if_neg (fun h => h.2.2 hn)] at h; exact h
      · rw [if_neg (by simpa using hn)]; rw [if_pos ⟨ha, hm, hn⟩] at h; exact h
  · rw [if_neg ha]; rw [if_neg (fun h => ha h.1)] at h; exact h

theorem model_any (s : ByteArray) (w : World) (hmax : s.size ≤ 281474976710656) :
    Calls Ybaf.prog 7 #[.string s] w fun e w' => Say s.data.toList e ∧ w' = w := by
  have hlen : s.data.toList.length = s.size := rfl
  by_cases h0 : s.size = 0
  · refine (model_empty s w h0).mono ?_
    rintro e w' ⟨rfl, rfl⟩
    have : s.data.toList = [] := List.eq_nil_of_length_eq_zero (by omega)
    rw [this]
    exact ⟨rfl, rfl⟩
  have hp : 0 < s.size := by omega
  have hcons : s.data.toList = s[0] :: s.data.toList.tail := by
    have := List.cons_head_tail (l := s.data.toList) (by intro h; rw [h] at hlen; simp at hlen; omega)
    refine this.symm.trans (congrArg (· :: _) ?_)
    rw [List.head_eq_getElem]; rfl
  have htail : (s.extract 1 s.size).data.toList = s.data.toList.tail := by
    have : (s.extract 1 s.size).data = s.data.extract 1 s.data.size := ByteArray.data_extract
    rw [this, Array.toList_extract, List.extract_eq_take_drop, List.drop_one, List.take_of_length_le]
    simp
  by_cases hc : (s[0].toNat : Int) = 45
  · have hc' : s[0] = 45 := UInt8.toNat_inj.1 (by have : (45 : UInt8).toNat = 45 := rfl; omega)
    have hhead : s.data.toList.head? = some 45 := by rw [hcons, hc']; rfl
    have hneg : isNeg s.data.toList = true := by unfold isNeg; rw [hhead]; rfl
    have hst : strip s.data.toList = s.data.toList.tail := by unfold strip; rw [if_pos hhead]
    by_cases h1 : s.size = 1
    · refine (model_bare s w hp hc h1).mono ?_
      rintro e w' ⟨rfl, rfl⟩
      refine ⟨?_, rfl⟩
      have : strip s.data.toList = [] := by
        rw [hst]; exact List.eq_nil_of_length_eq_zero (by simp [hlen, h1])
      unfold Say model
      rw [if_pos this]
    · refine (model_neg s w hmax hp _ rfl hc h1).mono ?_
      rintro e w' ⟨h, rfl⟩
      refine ⟨?_, rfl⟩
      refine ans_say _ _ _ (htail.trans hst.symm) ?_ (by rw [hneg]; exact h)
      rw [hst]; intro hh
      have : s.data.toList.tail.length = 0 := by rw [hh]; rfl
      rw [List.length_tail] at this; omega
  · have hhead : ¬ s.data.toList.head? = some 45 := by
      rw [hcons]; simp; intro h; apply hc; rw [h]; rfl
    have hneg : isNeg s.data.toList = false := by unfold isNeg; simpa using hhead
    have hst : strip s.data.toList = s.data.toList := by unfold strip; rw [if_neg hhead]
    refine (model_pos s w hmax hp hc).mono ?_
    rintro e w' ⟨h, rfl⟩
    refine ⟨?_, rfl⟩
    refine ans_say _ _ _ hst.symm ?_ (by rw [hneg]; exact h)
    rw [hst, hcons]; simp
theorem model_some (s : ByteArray) (w : World) (hmax : s.size ≤ 281474976710656) (v : Nat) (hm : model s.data.toList = some v) :
    Calls Ybaf.prog 7 #[.string s] w fun e w' => e = .returned (.tuple #[.int .i64 (v : Int), .bool true]) ∧ w' = w := by
  refine (model_any s w hmax).mono ?_
  rintro e w' ⟨h, rfl⟩
  unfold Say at h; rw [hm] at h
  exact ⟨h, rfl⟩
theorem model_none (s : ByteArray) (w : World) (hmax : s.size ≤ 281474976710656) (hm : model s.data.toList = none) :
    Calls Ybaf.prog 7 #[.string s] w fun e w' => e = .returned (.tuple #[.int .i64 0, .bool false]) ∧ w' = w := by
  refine (model_any s w hmax).mono ?_
  rintro e w' ⟨h, rfl⟩
  unfold Say at h; rw [hm] at h
  exact ⟨h, rfl⟩
end Go.Proofs.YbulkbntaFmt
