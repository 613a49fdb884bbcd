import Derived.Test.YbulkbnryDoorShelf
import Derived.WalkKit
import Derived.WalkLawsBesides
import Derived.BigQuiet
import Derived.Deep.RegionHeld3
namespace Go.Proofs.YbulkbnryDoor
open Go.RowKit Go.Sort

def cmpI (x y : Int) : Int := if x < y then -1 else if y < x then 1 else 0
/-- cmp.Or. -/
def orL : List Int → Int
  | [] => 0
  | x :: r => if x ≠ 0 then x else orL r

set_option maxRecDepth 100000 in
theorem nan64 (x : Int) (w : World) : Calls Ybad.prog 32 #[.int .u64 x] w fun e w' => e = .returned (.bool false) ∧ w' = w := by
  go_enter Ybad.func32, Ybad.ntmps32
  go_wp2
  go_ret
  exact ⟨rfl, rfl⟩
set_option maxRecDepth 100000 in
theorem nanInt (x : Int) (w : World) : Calls Ybad.prog 33 #[.int .i64 x] w fun e w' => e = .returned (.bool false) ∧ w' = w := by
  go_enter Ybad.func33, Ybad.ntmps33
  go_wp2
  go_ret
  exact ⟨rfl, rfl⟩
set_option maxRecDepth 100000 in
theorem compare64 (x y : Int) (w : World) : Calls Ybad.prog 16 #[.int .u64 x, .int .u64 y] w fun e w' => e = .returned (.int .i64 (cmpI x y)) ∧ w' = w := by
  by_cases h1 : x < y
  · have e : cmpI x y = -1 := by unfold cmpI; rw [if_pos h1]
    rw [e]
    go_enter Ybad.func16, Ybad.ntmps16
    go_wp2_with (go_at_call 32; refine (nan64 _ _).mono ?_; rintro e w' ⟨rfl, rfl⟩)
    go_ret
    exact ⟨rfl, rfl⟩
  · by_cases h2 : y < x
    · have e : cmpI x y = 1 := by unfold cmpI; rw [if_neg h1, if_pos h2]
      rw [e]
      go_enter Ybad.func16, Ybad.ntmps16
      go_wp2_with (go_at_call 32; refine (nan64 _ _).mono ?_; rintro e w' ⟨rfl, rfl⟩)
      go_ret
      exact ⟨rfl, rfl⟩
    · have e : cmpI x y = 0 := by unfold cmpI; rw [if_neg h1, if_neg h2]
      rw [e]
      go_enter Ybad.func16, Ybad.ntmps16
      go_wp2_with (go_at_call 32; refine (nan64 _ _).mono ?_; rintro e w' ⟨rfl, rfl⟩)
      go_ret
      exact ⟨rfl, rfl⟩
set_option maxRecDepth 100000 in
theorem compareInt (x y : Int) (w : World) : Calls Ybad.prog 17 #[.int .i64 x, .int .i64 y] w fun e w' => e = .returned (.int .i64 (cmpI x y)) ∧ w' = w := by
  by_cases h1 : x < y
  · have e : cmpI x y = -1 := by unfold cmpI; rw [if_pos h1]
    rw [e]
    go_enter Ybad.func17, Ybad.ntmps17
    go_wp2_with (go_at_call 33; refine (nanInt _ _).mono ?_; rintro e w' ⟨rfl, rfl⟩)
    go_ret
    exact ⟨rfl, rfl⟩
  · by_cases h2 : y < x
    · have e : cmpI x y = 1 := by unfold cmpI; rw [if_neg h1, if_pos h2]
      rw [e]
      go_enter Ybad.func17, Ybad.ntmps17
      go_wp2_with (go_at_call 33; refine (nanInt _ _).mono ?_; rintro e w' ⟨rfl, rfl⟩)
      go_ret
      exact ⟨rfl, rfl⟩
    · have e : cmpI x y = 0 := by unfold cmpI; rw [if_neg h1, if_neg h2]
      rw [e]
      go_enter Ybad.func17, Ybad.ntmps17
      go_wp2_with (go_at_call 33; refine (nanInt _ _).mono ?_; rintro e w' ⟨rfl, rfl⟩)
      go_ret
      exact ⟨rfl, rfl⟩

set_option maxRecDepth 100000 in
set_option maxHeartbeats 800000 in
theorem or_any (b : Nat) (xs : List Int) (n c : Nat) (w : World) (hl : Hid (xs.length = n)) (hn : n ≤ 10) (hx : Hid (∀ i, i < xs.length → w.cell? ⟨b, i, none⟩ = some (.int .i64 (xs.getD i 0)))) :
    Calls Ybad.prog 15 #[.slice (some ⟨b, 0, none⟩) n c] w fun e w' => e = .returned (.int .i64 (orL xs)) ∧ w' = w := by
  go_enter Ybad.func15, Ybad.ntmps15
  go_wp2
  go_loop [8] (fun i => ∃ k : Nat, k ≤ n ∧ i = .int .i64 k ∧ Hid (orL xs = orL (xs.drop k))) (fun i => n - (intOf i).toNat)
  case atStart => exact ⟨0, Nat.zero_le _, rfl, rfl⟩
  case round =>
    obtain ⟨k, hk, rfl, ho⟩ := hrel
    by_cases hlt : k < n
    · have hc := hx.out k (by have := hl.out; omega)
      have hd : Hid (xs.drop k = xs.getD k 0 :: xs.drop (k + 1)) := by
        show xs.drop k = _
        rw [List.drop_eq_getElem_cons (by have := hl.out; omega)]; simp [List.getD, List.getElem?_eq_getElem (by have := hl.out; omega : k < xs.length)]
      obtain ⟨y, hy⟩ : ∃ y, y = xs.getD k 0 := ⟨_, rfl⟩
      rw [← hy] at hc hd
      clear hy
      by_cases h0 : y = 0
      · subst h0
        go_wp2
        go_round
        case rel => exact ⟨k + 1, hlt, by go_num, ho.out.trans (by rw [hd.out]; simp [orL])⟩
        case measure => simp [intOf]; omega
      · go_wp2
        go_ret
        refine ⟨?_, rfl⟩
        rw [ho.out, hd.out]
        simp only [orL]
        rw [if_pos h0]; rfl
    · go_wp2
      go_ret
      refine ⟨?_, rfl⟩
      rw [ho.out, List.drop_eq_nil_of_le (by have := hl.out; omega)]
      rfl
end Go.Proofs.YbulkbnryDoor
