/-
  bound: what its last loops keep (seat b4030aZD).
-/
import Derived.Test.YbulkcelaGreatDoorBndA
namespace Go.Proofs.YbulkcelaGreatDoor
open Go.RowKit Go.MapKept Go.Lib Go.Shelf Go.Maps Go.Sort

/-- The times of the contracts is. -/
def tmL (S E : Nat → Int) (is : List Nat) : List Int := is.flatMap fun i => [S i, E i]
/-- The bounds of the kind k. -/
def bdK (V : Nat → Nat) (S E : Nat → Int) (len : Nat) (k : Int) : List Int := compact (sortI (tmL S E (flK V len k)))
theorem tmL_length (S E : Nat → Int) (is : List Nat) : (tmL S E is).length = is.length * 2 := by
  unfold tmL
  induction is with
  | nil => rfl
  | cons a l ih => rw [List.flatMap_cons, List.length_append, ih]; simp; omega
theorem tmL_snoc (S E : Nat → Int) (is : List Nat) (i : Nat) : tmL S E (is ++ [i]) = tmL S E is ++ [S i, E i] := by
  unfold tmL
  rw [List.flatMap_append]
  simp

section
variable {w : World} {kb kc len : Nat} {V : Nat → Nat} {S E : Nat → Int} {ks : List Int} {vs : Nat → Value} {j : Nat} {tv : Value} {fl bv : Nat → Value} {wr w' : World}

/-- The fourth loop's state. -/
structure TSt (w : World) (kb kc len : Nat) (V : Nat → Nat) (S E : Nat → Int) (ks : List Int) (vs : Nat → Value) (j : Nat) (tv : Value) (fl bv : Nat → Value) (wr : World) : Prop where
  os : wr.os = w.os
  tape : wr.tape = w.tape
  output : wr.output = w.output
  size : w.heap.size + 2 ≤ wr.heap.size
  block : ∀ k, k < w.heap.size → k ≠ kb → wr.heap[k]? = w.heap[k]?
  kbl : kb < w.heap.size
  kinds : ∃ cur : Array Value, wr.heap[kb]? = some (.cells cur 105 (0, 0)) ∧ cur.size = kc * 2 ∧ ∀ i, i < ks.length → cur[i * 2]? = some (vs i) ∧ cur[i * 2 + 1]? = some (bv i)
  flb : wr.heap[w.heap.size + 1]? = some (.cells ((List.range ks.length).map fun i => if i < j then Value.slice none 0 0 else fl i).toArray 44 (0, 0))
  rows : ∀ (i : Nat) (k : Int), ks[i]? = some k → wr.ownsRow (w.heap.size + 2) 3 1 (fl i) (flK V len k).length (ints (flK V len k))
  tm : ∃ n xs, wr.ownsRow (w.heap.size + 2) 29 3 tv n xs
  bnd : ∀ (i : Nat) (k : Int), i < j → ks[i]? = some k → wr.ownsRow (w.heap.size + 2) 29 3 (bv i) (bdK V S E len k).length ((bdK V S E len k).flatMap encT)
  apart : ∀ i g, i < j → i < ks.length → (bv i).ownBlock = some g → tv.ownBlock ≠ some g

theorem owned_other {base base' e e' size size' n n' : Nat} {v u : Value} {xs ys : List Value} (h : wr.ownsRow base e size v n xs) (hu : wr.ownsRow base' e' size' u n' ys) (he : e ≠ e') {g : Nat} (hg : v.ownBlock = some g) : u.ownBlock ≠ some g := fun e2 => by
  obtain ⟨_, c1, h1⟩ := own_block h hg
  obtain ⟨_, c2, h2⟩ := own_block hu e2
  rw [h1] at h2
  injection h2 with h2
  injection h2 with _ h3 _
  exact he h3

/-- Only the times' own row has turned. -/
theorem TSt.keep {tv' : Value} (h : TSt w kb kc len V S E ks vs j tv fl bv wr) (hg : wr.grownBy w' tv.ownBlock) (hrow : ∃ n xs, w'.ownsRow (w.heap.size + 2) 29 3 tv' n xs) (hlie : tv'.ownBlock = tv.ownBlock ∨ ∀ g, tv'.ownBlock = some g → wr.heap.size ≤ g) : TSt w kb kc len V S E ks vs j tv' fl bv w' := by
  obtain ⟨tn, txs, htm⟩ := h.tm
  have hsz := h.size
  have hkl := h.kbl
  have hlow : ∀ k, k < w.heap.size + 2 → w'.heap[k]? = wr.heap[k]? := fun k hk => hg.block k (by omega) (fun e => by have := (own_block htm e.symm).1; omega)
  obtain ⟨cur, hk1, hk2⟩ := h.kinds
  refine ⟨hg.os.trans h.os, hg.tape.trans h.tape, hg.output.trans h.output, by have := hg.size; omega, fun k k1 k2 => (hlow k (by omega)).trans (h.block k k1 k2), h.kbl, ⟨cur, (hlow kb (by omega)).trans hk1, hk2⟩, (hlow _ (by omega)).trans h.flb, fun i k hi => ?_, hrow, fun i k h1 h2 => ?_, fun i g h1 h2 h3 => ?_⟩
  · have hr := h.rows i k hi
    refine owns_far hr fun g hg' => hg.block g ?_ (fun e => owned_other hr htm (by decide) hg' e.symm)
    obtain ⟨_, cu, hc⟩ := own_block hr hg'
    exact (Array.getElem?_eq_some_iff.1 hc).1
  · have hr := h.bnd i k h1 h2
    have hil := (List.getElem?_eq_some_iff.1 h2).1
    refine owns_far hr fun g hg' => hg.block g ?_ (fun e => h.apart i g h1 hil hg' e.symm)
    obtain ⟨_, cu, hc⟩ := own_block hr hg'
    exact (Array.getElem?_eq_some_iff.1 hc).1
  · rcases hlie with e | e
    · rw [e]; exact h.apart i g h1 h2 h3
    · intro e2
      have hr := h.bnd i _ h1 (List.getElem?_eq_getElem h2)
      obtain ⟨_, cu, hc⟩ := own_block hr h3
      have := (Array.getElem?_eq_some_iff.1 hc).1
      have := e g e2
      omega

theorem grown_alloc (w : World) (o : Obj) (b : Option Nat) : w.grownBy (w.alloc o) b := ⟨rfl, rfl, rfl, by simp, fun k hk _ => Below.heap_alloc _ _ _ hk⟩
theorem grown_below {b : Option Nat} (h : Below w.heap.size w w') : w.grownBy w' b := ⟨h.os, h.tape, h.output, h.size, fun k hk _ => h.block k hk⟩

theorem bv_lt (h : TSt w kb kc len V S E ks vs j tv fl bv wr) {i g : Nat} (h1 : i < j) (h2 : i < ks.length) (h3 : (bv i).ownBlock = some g) : g < wr.heap.size := by
  obtain ⟨_, cu, hc⟩ := own_block (h.bnd i _ h1 (List.getElem?_eq_getElem h2)) h3
  exact (Array.getElem?_eq_some_iff.1 hc).1

/-- The bounds are stored, the contracts of the kind let go. -/
theorem TSt.next {v : Value} {k : Int} (h : TSt w kb kc len V S E ks vs j tv fl bv wr) (hj : ks[j]? = some k) (hkc : ks.length ≤ kc) (hv : wr.ownsRow (w.heap.size + 2) 29 3 v (bdK V S E len k).length ((bdK V S E len k).flatMap encT)) (hvt : ∀ g, v.ownBlock = some g → tv.ownBlock ≠ some g) :
    wr.cell? ⟨kb, j * 2 + 1, none⟩ = some (bv j) ∧ wr.frozen? ⟨kb, j * 2 + 1, none⟩ = false ∧
    (wr.setCell ⟨kb, j * 2 + 1, none⟩ v).cell? ⟨w.heap.size + 1, j, none⟩ = some (fl j) ∧ (wr.setCell ⟨kb, j * 2 + 1, none⟩ v).frozen? ⟨w.heap.size + 1, j, none⟩ = false ∧
    TSt w kb kc len V S E ks vs (j + 1) tv fl (fun i => if i = j then v else bv i) ((wr.setCell ⟨kb, j * 2 + 1, none⟩ v).setCell ⟨w.heap.size + 1, j, none⟩ (.slice none 0 0)) := by
  have hjl := (List.getElem?_eq_some_iff.1 hj).1
  have hkl := h.kbl
  have hsz := h.size
  obtain ⟨cur, hk1, hk2, hk3⟩ := h.kinds
  obtain ⟨w1, hw1⟩ : ∃ w1, wr.setCell ⟨kb, j * 2 + 1, none⟩ v = w1 := ⟨_, rfl⟩
  have hb1 : ∀ k, k ≠ kb → w1.heap[k]? = wr.heap[k]? := fun k hne => by rw [← hw1]; exact Below.heap_setCell _ _ _ _ hne
  have hkb1 : w1.heap[kb]? = some (.cells (cur.setIfInBounds (j * 2 + 1) v) 105 (0, 0)) := by rw [← hw1]; exact Joins.block_setCell (i := j * 2 + 1) hk1 v
  have hf1 := (hb1 (w.heap.size + 1) (by omega)).trans h.flb
  obtain ⟨w2, hw2⟩ : ∃ w2, w1.setCell ⟨w.heap.size + 1, j, none⟩ (.slice none 0 0) = w2 := ⟨_, rfl⟩
  have hb2 : ∀ k, k ≠ w.heap.size + 1 → w2.heap[k]? = w1.heap[k]? := fun k hne => by rw [← hw2]; exact Below.heap_setCell _ _ _ _ hne
  have hb12 : ∀ k, k ≠ kb → k ≠ w.heap.size + 1 → w2.heap[k]? = wr.heap[k]? := fun k n1 n2 => (hb2 k n2).trans (hb1 k n1)
  have hs2 : w2.heap.size = wr.heap.size := by rw [← hw2, ← hw1]; simp [World.setCell]
  have hrowk : ∀ {e n : Nat} {size : Nat} {u : Value} {xs : List Value}, wr.ownsRow (w.heap.size + 2) e size u n xs → w2.ownsRow (w.heap.size + 2) e size u n xs := fun hr => owns_far hr fun g hg => by
    have := (own_block hr hg).1
    exact hb12 g (by omega) (by omega)
  refine ⟨(Joins.cell_of_block hk1 _).trans (hk3 j hjl).2, Joins.unfrozen_of_block hk1 _, ?_, ?_, ?_⟩
  · rw [hw1]
    refine (Joins.cell_of_block hf1 j).trans ?_
    simp [hjl]
  · rw [hw1]; exact Joins.unfrozen_of_block hf1 j
  · rw [hw1, hw2]
    obtain ⟨tn, txs, htm⟩ := h.tm
    refine ⟨?_, ?_, ?_, by omega, fun k k1 k2 => ?_, hkl, ⟨_, (hb2 kb (by omega)).trans hkb1, by simpa using hk2, fun i hi => ⟨?_, ?_⟩⟩, ?_, fun i k hi => hrowk (h.rows i k hi), ⟨tn, txs, hrowk htm⟩, fun i k' h1 h2 => ?_, fun i g h1 h2 h3 => ?_⟩
    · rw [← hw2, ← hw1]; exact h.os
    · rw [← hw2, ← hw1]; exact h.tape
    · rw [← hw2, ← hw1]; exact h.output
    · rw [hb12 k k2 (by omega)]; exact h.block k k1 k2
    · rw [Array.getElem?_setIfInBounds, if_neg (by omega)]; exact (hk3 i hi).1
    · rw [Array.getElem?_setIfInBounds]
      by_cases e : i = j
      · subst e; rw [if_pos rfl, if_pos (by omega), if_pos rfl]
      · rw [if_neg (by omega), if_neg e]; exact (hk3 i hi).2
    · rw [← hw2]
      have := Joins.block_setCell (i := j) hf1 (.slice none 0 0)
      rw [map_set] at this
      rw [this]
      congr 2
      refine congrArg List.toArray (List.map_congr_left fun i _ => ?_)
      by_cases e : i = j
      · subst e; simp
      · by_cases e2 : i < j
        · rw [if_neg e, if_pos e2, if_pos (by omega)]
        · rw [if_neg e, if_neg e2, if_neg (by omega)]
    · by_cases e : i = j
      · subst e
        rw [hj] at h2
        injection h2 with h2
        subst h2
        simp only [if_true]
        exact hrowk hv
      · simp only [if_neg e]
        exact hrowk (h.bnd i k' (by omega) h2)
    · by_cases e : i = j
      · simp only [if_pos e] at h3; exact hvt g h3
      · simp only [if_neg e] at h3; exact h.apart i g (by omega) h2 h3
end
end Go.Proofs.YbulkcelaGreatDoor
