/-
  strconv.AppendInt at 1, and the key's bytes (seat b4030aZD).
-/
import Derived.Test.YbulkcelaGreatDoorKinds
import Derived.Lib.AppendStr
import Derived.Laws.BytesArg
namespace Go.Proofs.YbulkcelaGreatDoor
open Go.RowKit Go.Lib

theorem Ybaz.info5 : (Ybaz.prog.info? 5).map (fun i => (i.zero, i.size, i.bytes)) = some (some (.int .u8 0), 1, 1) := by kernel_rfl

set_option maxRecDepth 100000 in
theorem small86 (w : World) : Calls Ybaz.prog 86 #[.int .i64 1] w fun e w' => e = .returned (.string ⟨#[49]⟩) ∧ w' = w := by
  go_enter Ybaz.func86, Ybaz.ntmps86
  go_wp2
  go_ret
  exact ⟨rfl, rfl⟩

set_option maxRecDepth 100000 in
theorem appU69 (base n : Nat) (v : Value) (xs : List Value) (w : World) (hown : w.ownsRow base 5 1 v n xs) (hn : n ≤ 1000000) (hb : base ≤ w.heap.size) :
    Calls Ybaz.prog 69 #[v, .int .u64 1, .int .i64 10] w fun e w' => ∃ v', e = .returned v' ∧ w'.ownsRow base 5 1 v' (n + 1) (xs ++ [.int .u8 49]) ∧ w.grownBy w' v.ownBlock := by
  obtain ⟨i0, hi, hz0, hz1, hz2⟩ := info_parts Ybaz.info5
  have Hi : Aside (Ybaz.prog.info? 5 = some i0 ∧ i0.zero = some (.int .u8 0) ∧ i0.size = 1 ∧ i0.bytes = 1) := ⟨hi, hz0, hz1, hz2⟩
  have Ho : Aside (w.ownsRow base 5 1 v n xs) := hown
  have hsm := fun W => small86 W
  clear hi hz0 hz1 hz2 hown
  go_enter Ybaz.func69, Ybaz.ntmps69
  go_wp2_with (first
    | (go_at_call 86; refine (hsm _).mono ?_; rintro _ w1 ⟨rfl, hw1⟩; obtain rfl := hw1.symm)
    | (at_builtin; refine Veil.off ?_))
  unfold Veil
  refine wpList_append_own_string _ rfl (.tmp 13) (.tmp 16) 88 9 rfl base 5 i0 Ybaz.underlying88 Ybaz.underlying9 Hi.out.1 Hi.out.2.1 Hi.out.2.2.1 Hi.out.2.2.2 v n xs rfl Ho.out ⟨#[49]⟩ rfl ?_ ?_ hb ?_
  · show n + 1 ≤ maxLen; unfold maxLen; omega
  · show n + 1 ≤ _; omega
  intro v' w' hown' hgrow _
  have A : Aside (w'.ownsRow base 5 1 v' (n + 1) (xs ++ [.int .u8 49]) ∧ w.grownBy w' v.ownBlock) := ⟨hown', hgrow⟩
  clear hown' hgrow
  go_wp2
  go_ret
  exact ⟨_, rfl, A.out⟩

theorem appI53 (base n : Nat) (v : Value) (xs : List Value) (w : World) (hown : w.ownsRow base 5 1 v n xs) (hn : n ≤ 1000000) (hb : base ≤ w.heap.size) :
    Calls Ybaz.prog 53 #[v, .int .i64 1, .int .i64 10] w fun e w' => ∃ v', e = .returned v' ∧ w'.ownsRow base 5 1 v' (n + 1) (xs ++ [.int .u8 49]) ∧ w.grownBy w' v.ownBlock := by
  have h := appU69 base n v xs w hown hn hb
  clear hown
  go_enter Ybaz.func53, Ybaz.ntmps53
  go_wp2_with (go_at_call 69; refine h.mono ?_; rintro _ w1 ⟨v1, rfl, h1, h2⟩)
  go_ret
  exact ⟨_, rfl, h1, h2⟩

theorem app33 (base n : Nat) (v : Value) (xs : List Value) (w : World) (hown : w.ownsRow base 5 1 v n xs) (hn : n ≤ 1000000) (hb : base ≤ w.heap.size) :
    Calls Ybaz.prog 33 #[v, .int .i64 1, .int .i64 10] w fun e w' => ∃ v', e = .returned v' ∧ w'.ownsRow base 5 1 v' (n + 1) (xs ++ [.int .u8 49]) ∧ w.grownBy w' v.ownBlock := by
  have h := appI53 base n v xs w hown hn hb
  clear hown
  go_enter Ybaz.func33, Ybaz.ntmps33
  go_wp2_with (go_at_call 53; refine h.mono ?_; rintro _ w1 ⟨v1, rfl, h1, h2⟩)
  go_ret
  exact ⟨_, rfl, h1, h2⟩
end Go.Proofs.YbulkcelaGreatDoor
