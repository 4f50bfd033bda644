/-
  LawS4032CSingleStep: the SMs that hold the most blocks: no Go in sight (seat b4032aZ).
-/
import Derived.Test.YbulkcemcGreatRefill
namespace Go.Proofs.YbulkcemcGreat

def mostStep (st : Nat × List Int) (x : Int) (n : Nat) : Nat × List Int :=
  if st.1 < n then (n, [x]) else if n = st.1 then (st.1, st.2 ++ [x]) else st

def mostFrom : Nat → List Int → Nat × List Int → Nat × List Int
  | 0, _, st => st
  | _ + 1, [], st => st
  | f + 1, x :: t, st => mostFrom f (t.dropWhile (· == x)) (mostStep st x (1 + (t.takeWhile (· == x)).length))

def mostOf (l : List Int) : List Int := (mostFrom l.length l (0, [])).2

theorem drop_le (t : List Int) (x : Int) : (t.dropWhile (· == x)).length ≤ t.length := (List.dropWhile_sublist _).length_le

theorem mostFrom_fuel : ∀ (f : Nat) (f' : Nat) (l : List Int) (st : Nat × List Int), l.length ≤ f → l.length ≤ f' → mostFrom f l st = mostFrom f' l st
  | 0, 0, _, _, _, _ => rfl
  | 0, f' + 1, [], _, _, _ => rfl
  | 0, _ + 1, _ :: _, _, h, _ => absurd h (by simp)
  | f + 1, 0, [], _, _, _ => rfl
  | _ + 1, 0, _ :: _, _, _, h => absurd h (by simp)
  | f + 1, f' + 1, [], _, _, _ => rfl
  | f + 1, f' + 1, x :: t, st, h, h' => by
    have := drop_le t x
    simp only [List.length_cons] at h h'
    exact mostFrom_fuel f f' _ _ (by omega) (by omega)

/-- What holds of every step. -/
theorem mostFrom_facts : ∀ (f : Nat) (l : List Int) (st : Nat × List Int), l.length ≤ f → l.Pairwise (· ≤ ·) → st.2.Pairwise (· ≤ ·) → (∀ a ∈ st.2, ∀ b ∈ l, a ≤ b) → (st.2 ≠ [] ∨ st.1 = 0) →
    (mostFrom f l st).2.Pairwise (· ≤ ·) ∧ (∀ a ∈ (mostFrom f l st).2, a ∈ st.2 ∨ a ∈ l) ∧ ((st.2 ≠ [] ∨ l ≠ []) → (mostFrom f l st).2 ≠ [])
  | 0, [], st, _, _, h2, _, _ => ⟨h2, fun a ha => .inl ha, fun h => h.resolve_right (by simp)⟩
  | 0, _ :: _, _, h, _, _, _, _ => absurd h (by simp)
  | f + 1, [], st, _, _, h2, _, _ => ⟨h2, fun a ha => .inl ha, fun h => h.resolve_right (by simp)⟩
  | f + 1, x :: t, st, h, h1, h2, h3, h4 => by
    have hd := drop_le t x
    simp only [List.length_cons] at h
    rw [List.pairwise_cons] at h1
    have hsub : (t.dropWhile (· == x)).Sublist t := List.dropWhile_sublist _
    have hst : (mostStep st x (1 + (t.takeWhile (· == x)).length)).2.Pairwise (· ≤ ·) ∧ (∀ a ∈ (mostStep st x (1 + (t.takeWhile (· == x)).length)).2, a ∈ st.2 ∨ a = x) ∧ (mostStep st x (1 + (t.takeWhile (· == x)).length)).2 ≠ [] := by
      unfold mostStep
      split
      · exact ⟨by simp, fun a ha => .inr (by simpa using ha), by simp⟩
      · split
        · refine ⟨?_, fun a ha => ?_, by simp⟩
          · rw [List.pairwise_append]
            exact ⟨h2, by simp, fun a ha b hb => by simp at hb; subst hb; exact h3 a ha b (by simp)⟩
          · rcases List.mem_append.1 ha with ha | ha
            · exact .inl ha
            · exact .inr (by simpa using ha)
        · refine ⟨h2, fun a ha => .inl ha, ?_⟩
          rcases h4 with h4 | h4
          · exact h4
          · rename_i hn _
            rw [h4] at hn
            omega
    obtain ⟨s1, s2, s3⟩ := hst
    have ih := mostFrom_facts f (t.dropWhile (· == x)) (mostStep st x (1 + (t.takeWhile (· == x)).length)) (by omega) (h1.2.sublist hsub) s1 (fun a ha b hb => by
      have hbt := hsub.subset hb
      rcases s2 a ha with ha | rfl
      · exact h3 a ha b (by simp [hbt])
      · exact h1.1 b hbt) (.inl s3)
    obtain ⟨i1, i2, i3⟩ := ih
    refine ⟨i1, fun a ha => ?_, fun _ => i3 (.inl s3)⟩
    rcases i2 a ha with ha | ha
    · rcases s2 a ha with ha | rfl
      · exact .inl ha
      · exact .inr (by simp)
    · exact .inr (by simp [hsub.subset ha])

theorem mostOf_facts {l : List Int} (hs : l.Pairwise (· ≤ ·)) (h0 : l ≠ []) : (mostOf l).Pairwise (· ≤ ·) ∧ (∀ a ∈ mostOf l, a ∈ l) ∧ mostOf l ≠ [] := by
  obtain ⟨h1, h2, h3⟩ := mostFrom_facts l.length l (0, []) (Nat.le_refl _) hs (by simp) (fun a ha => by cases ha) (.inr rfl)
  exact ⟨h1, fun a ha => (h2 a ha).resolve_left (fun h => by cases h), h3 (.inr h0)⟩
end Go.Proofs.YbulkcemcGreat
