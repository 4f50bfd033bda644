/-
  FromHistory (seat b4030aZD): the kinds and their counts, without Go; its state.
-/
import Derived.Test.YbulkcelaGreatDoorOfA
import Derived.Test.YbulkcelaGreatDoorSecs
namespace Go.Proofs.YbulkcelaGreatDoor
open Go.RowKit Go.MapKept Go.Lib Go.Shelf Go.Maps

/-- One row of the history: its kind's key and its count. -/
def histStep (st : List Int × List Int) (x : Int × Int) : List Int × List Int :=
  if x.1 ∈ st.1 then (st.1, st.2.set (st.1.idxOf x.1) (st.2.getD (st.1.idxOf x.1) 0 + x.2)) else (st.1 ++ [x.1], st.2 ++ [x.2])

/-- The kinds and their counts behind the first i rows. -/
def hist (key C : Nat → Int) : Nat → List Int × List Int
  | 0 => ([], [])
  | i + 1 => histStep (hist key C i) (key i, C i)

theorem hist_len (key C : Nat → Int) : ∀ i, (hist key C i).2.length = (hist key C i).1.length
  | 0 => rfl
  | i + 1 => by
    have ih := hist_len key C i
    unfold hist histStep
    split <;> simp [ih]

theorem hist_le (key C : Nat → Int) : ∀ i, (hist key C i).1.length ≤ i
  | 0 => Nat.le_refl _
  | i + 1 => by
    have ih := hist_le key C i
    unfold hist histStep
    split
    · show (hist key C i).1.length ≤ _; omega
    · simp; omega

theorem hist_nodup (key C : Nat → Int) : ∀ i, (hist key C i).1.Nodup
  | 0 => List.nodup_nil
  | i + 1 => by
    have ih := hist_nodup key C i
    unfold hist histStep
    split
    · exact ih
    · rename_i h
      exact List.nodup_append.2 ⟨ih, by simp, fun a ha b hb e => h (by simp at hb; subst hb; subst e; exact ha)⟩

theorem hist_mem (key C : Nat → Int) (P : Int → Prop) (h : ∀ i, P (key i)) : ∀ i, ∀ x ∈ (hist key C i).1, P x
  | 0 => fun _ hx => by cases hx
  | i + 1 => fun x hx => by
    have ih := hist_mem key C P h i
    unfold hist histStep at hx
    split at hx
    · exact ih x hx
    · rcases List.mem_append.1 hx with hx | hx
      · exact ih x hx
      · simp at hx; subst hx; exact h i

theorem hist_small (key C : Nat → Int) (B : Nat) (h : ∀ i, (C i).natAbs ≤ B) : ∀ i, ∀ x ∈ (hist key C i).2, x.natAbs ≤ i * B
  | 0 => fun _ hx => by cases hx
  | i + 1 => fun x hx => by
    have ih := hist_small key C B h i
    have hC := h i
    rw [Nat.succ_mul]
    unfold hist histStep at hx
    split at hx
    · rcases List.mem_or_eq_of_mem_set hx with hx | hx
      · have := ih x hx; omega
      · generalize List.idxOf (key i, C i).1 (hist key C i).1 = j at hx
        have hx' : x = (hist key C i).2.getD j 0 + C i := hx
        by_cases hjl : j < (hist key C i).2.length
        · have hm : (hist key C i).2.getD j 0 ∈ (hist key C i).2 := by simp [List.getD, hjl]
          have := ih _ hm
          omega
        · have : (hist key C i).2.getD j 0 = 0 := by simp [List.getD, show (hist key C i).2.length ≤ j by omega]
          omega
    · rcases List.mem_append.1 hx with hx | hx
      · have := ih x hx; omega
      · have hx' : x = C i := by simpa using hx
        omega

/-- A row of the history in memory. -/
structure HRow (w : World) (hb b0 len : Nat) (V : Nat → Nat) (key C : Nat → Int) (i : Nat) : Prop where
  c0 : w.cell? ⟨hb, i * 5, none⟩ = some (.int .u64 0)
  c1 : w.cell? ⟨hb, i * 5 + 1, none⟩ = some (.int .i64 0)
  c2 : w.cell? ⟨hb, i * 5 + 2, none⟩ = some (.pointer none)
  c3 : w.cell? ⟨hb, i * 5 + 3, none⟩ = some (.int .i64 (C i))
  vis : ∃ v kc, w.cell? ⟨hb, i * 5 + 4, none⟩ = some v ∧ AskIn w b0 len V v (key i) kc

theorem AskIn.kept' {w w' : World} {b0 len : Nat} {V : Nat → Nat} {v : Value} {k : Int} {kc : Nat} (h : AskIn w b0 len V v k kc) (hk : ∀ r l, r ≠ b0 + 1 → MapL w r l → MapL w' r l) : AskIn w' b0 len V v k kc := by
  cases h with
  | kept r m hm hr hM hy => exact .kept r m hm hr (hk r _ hr hM) hy
  | nil => exact .nil
  | lost r m hm hr hM hno => exact .lost r m hm hr (hk r _ hr hM) hno
end Go.Proofs.YbulkcelaGreatDoor
