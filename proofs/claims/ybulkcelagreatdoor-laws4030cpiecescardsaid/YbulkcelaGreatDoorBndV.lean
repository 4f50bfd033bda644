/-
  Rows of times, whether nil or not: sorted, compacted, cloned (seat b4030aZD).
-/
import Derived.Test.YbulkcelaGreatDoorBndU
namespace Go.Proofs.YbulkcelaGreatDoor
open Go.RowKit Go.MapKept Go.Lib Go.Shelf Go.Maps Go.Sort

theorem row_nil {w : World} {base : Nat} {tv : Value} {L : List Int} (h : w.ownsRow base 29 3 tv L.length (L.flatMap encT)) : (tv = .slice none 0 0 ∧ L = []) ∨ ∃ b c, tv = .slice (some ⟨b, 0, none⟩) L.length c ∧ TB w b c L.toArray ∧ base ≤ b ∧ c ≤ maxLen := by
  rcases h.2 with ⟨e1, e2⟩ | ⟨b, c, cur, e1, _⟩
  · exact .inl ⟨e1, List.eq_nil_of_length_eq_zero e2⟩
  · subst e1
    exact .inr ⟨b, c, rfl, TB.of_row h⟩

theorem sortT_row {w : World} {base : Nat} {tv : Value} {L : List Int} (h : w.ownsRow base 29 3 tv L.length (L.flatMap encT)) (hl : L.length ≤ 1000) :
    Calls Ybaz.prog 57 #[tv, .func (.func 58) #[] #[]] w fun e w' => e = .returned (.tuple #[]) ∧ w.grownBy w' tv.ownBlock ∧ w'.ownsRow base 29 3 tv L.length ((sortI L).flatMap encT) := by
  rcases row_nil h with ⟨rfl, rfl⟩ | ⟨b, c, rfl, hT, hb, hc⟩
  · have hs := AnyF.slices_SortFunc_none Ybaz.sortT none 0 (.func (.func 58) #[] #[]) w
    change Calls Ybaz.prog 57 _ _ _ at hs
    refine hs.mono ?_
    rintro e w' ⟨rfl, rfl⟩
    exact ⟨rfl, ⟨rfl, rfl, rfl, Nat.le_refl _, fun _ _ _ => rfl⟩, ⟨by simp [sortI], .inl ⟨rfl, rfl⟩⟩⟩
  · refine (sort57 b c L w hT hl).mono ?_
    rintro e w' ⟨rfl, hg, hT'⟩
    refine ⟨rfl, hg, ?_⟩
    have := hT'.row hb hc
    rwa [sortI_length] at this

set_option linter.unusedSimpArgs false in
set_option maxRecDepth 100000 in
theorem comp60_nil (w : World) : Calls Ybaz.prog 60 #[.slice none 0 0, .func (.func 12) #[] #[]] w fun e w' => e = .returned (.slice none 0 0) ∧ w' = w := by
  go_enter Ybaz.func60, Ybaz.ntmps60
  go_wp2
  go_ret
  exact ⟨rfl, rfl⟩

theorem compT_row {w : World} {base : Nat} {tv : Value} {L : List Int} (h : w.ownsRow base 29 3 tv L.length (L.flatMap encT)) (hl : L.length ≤ 1000) :
    Calls Ybaz.prog 60 #[tv, .func (.func 12) #[] #[]] w fun e w' => ∃ tv', e = .returned tv' ∧ tv'.ownBlock = tv.ownBlock ∧ w.grownBy w' tv.ownBlock ∧ w'.ownsRow base 29 3 tv' (compact L).length ((compact L).flatMap encT) ∧ ∃ xs, w'.ownsRow base 29 3 tv L.length xs := by
  rcases row_nil h with ⟨rfl, rfl⟩ | ⟨b, c, rfl, hT, hb, hc⟩
  · refine (comp60_nil w).mono ?_
    rintro e w' ⟨rfl, rfl⟩
    exact ⟨_, rfl, rfl, ⟨rfl, rfl, rfl, Nat.le_refl _, fun _ _ _ => rfl⟩, ⟨by simp [compact, compactUpTo], .inl ⟨rfl, rfl⟩⟩, [], by simp, .inl ⟨rfl, rfl⟩⟩
  · have hs := comp60 b c L.toArray w hT (by simpa using hl)
    simp only [List.size_toArray] at hs
    refine hs.mono ?_
    rintro e w' ⟨rfl, hg, hT'⟩
    refine ⟨_, rfl, rfl, hg, hT'.row hb hc, ?_⟩
    obtain ⟨cur, hcb, hcs⟩ := hT'.blk
    have hf : L.length ≤ c := by simpa using hT.few
    exact ⟨cur.toList.take (L.length * 3), by simp; omega, .inr ⟨b, c, cur, rfl, hb, hcb, hf, hc, hcs, rfl⟩⟩

theorem cloneT_row {w : World} {base : Nat} {tv : Value} {L : List Int} (h : w.ownsRow base 29 3 tv L.length (L.flatMap encT)) (hl : L.length ≤ 1000) :
    Calls Ybaz.prog 59 #[tv] w fun e w' => ∃ v, e = .returned v ∧ Below w.heap.size w w' ∧ w'.ownsRow w.heap.size 29 3 v L.length (L.flatMap encT) := by
  rcases row_nil h with ⟨rfl, rfl⟩ | ⟨b, c, rfl, hT, hb, hc⟩
  · refine (clone59_nil w).mono ?_
    rintro e w' ⟨rfl, rfl⟩
    exact ⟨_, rfl, Below.refl _ _, by simp, .inl ⟨rfl, rfl⟩⟩
  · exact clone59 b c L w hT hl
end Go.Proofs.YbulkcelaGreatDoor
