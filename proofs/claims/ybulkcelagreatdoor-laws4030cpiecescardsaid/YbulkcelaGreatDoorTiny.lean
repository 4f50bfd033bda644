/-
  slices.Sort and slices.Compact of at most one int32, slices.Delete of the one term (seat b4030aZD).
-/
import Derived.Test.YbulkcelaGreatDoorCol
namespace Go.Proofs.YbulkcelaGreatDoor
open Go.RowKit Go.MapKept Go.Lib Go.Shelf Go.Maps

set_option maxRecDepth 100000 in
theorem len48 (n : Nat) (hn : n ≤ 1) (w : World) : Calls Ybaz.prog 48 #[.int .u64 (n : Nat)] w fun e w' => (∃ l : Int, e = .returned (.int .i64 l)) ∧ w' = w := by
  rcases (show n = 0 ∨ n = 1 by omega) with rfl | rfl
  all_goals
    go_enter Ybaz.func48, Ybaz.ntmps48
    go_wp2
    go_ret
    exact ⟨⟨_, rfl⟩, rfl⟩

set_option maxRecDepth 100000 in
theorem len26 (n : Nat) (hn : n ≤ 1) (w : World) : Calls Ybaz.prog 26 #[.int .u64 (n : Nat)] w fun e w' => (∃ l : Int, e = .returned (.int .i64 l)) ∧ w' = w := by
  have h := len48 n hn w
  go_enter Ybaz.func26, Ybaz.ntmps26
  go_wp2_with (go_at_call 48; refine h.mono ?_; rintro e w1 ⟨⟨l, rfl⟩, hw1⟩; obtain rfl := hw1.symm)
  go_ret
  exact ⟨⟨_, rfl⟩, rfl⟩

set_option maxRecDepth 100000 in
theorem ins112 (p : Option Addr) (n c : Nat) (hn : n ≤ 1) (w : World) : Calls Ybaz.prog 112 #[.slice p n c, .int .i64 0, .int .i64 n] w fun e w' => e = .returned (.tuple #[]) ∧ w' = w := by
  have hn' : (n : Int) ≤ 1 := by omega
  go_enter Ybaz.func112, Ybaz.ntmps112
  go_wp2
  refine wp_loop_rounds 1 ?_
  rw [rounds_succ]
  go_wp2
  go_end0
  exact ⟨rfl, rfl⟩

set_option maxRecDepth 100000 in
theorem pdq92 (p : Option Addr) (n c : Nat) (hn : n ≤ 1) (l : Int) (w : World) : Calls Ybaz.prog 92 #[.slice p n c, .int .i64 0, .int .i64 n, .int .i64 l] w fun e w' => e = .returned (.tuple #[]) ∧ w' = w := by
  have h := ins112 p n c hn w
  have hn' : (n : Int) ≤ 12 := by omega
  go_enter Ybaz.func92, Ybaz.ntmps92
  go_wp2
  refine wp_loop_rounds 1 ?_
  rw [rounds_succ]
  go_wp2_with (go_at_call 112; refine h.mono ?_; rintro e w1 ⟨rfl, hw1⟩; obtain rfl := hw1.symm)
  refine bodyPost_ret (results_none rfl _ _ _) rfl ?_
  exact ⟨rfl, rfl⟩

set_option maxRecDepth 100000 in
theorem sort71 (p : Option Addr) (n c : Nat) (hn : n ≤ 1) (w : World) : Calls Ybaz.prog 71 #[.slice p n c] w fun e w' => e = .returned (.tuple #[]) ∧ w' = w := by
  have h1 := fun W => len26 n hn W
  have h2 := fun l W => pdq92 p n c hn l W
  have hn' : (n : Int) ≤ 1 := by omega
  go_enter Ybaz.func71, Ybaz.ntmps71
  go_wp2_with (first
    | (go_at_call 26; refine (h1 _).mono ?_; rintro e w1 ⟨⟨l, rfl⟩, hw1⟩; obtain rfl := hw1.symm)
    | (go_at_call 92; refine (h2 _ _).mono ?_; rintro e w1 ⟨rfl, hw1⟩; obtain rfl := hw1.symm))
  go_end0
  exact ⟨rfl, rfl⟩

set_option maxRecDepth 100000 in
theorem comp72 (p : Option Addr) (n c : Nat) (hn : n ≤ 1) (w : World) : Calls Ybaz.prog 72 #[.slice p n c] w fun e w' => e = .returned (.slice p n c) ∧ w' = w := by
  have hn' : (n : Int) < 2 := by omega
  go_enter Ybaz.func72, Ybaz.ntmps72
  go_wp2
  go_ret
  exact ⟨rfl, rfl⟩
end Go.Proofs.YbulkcelaGreatDoor
