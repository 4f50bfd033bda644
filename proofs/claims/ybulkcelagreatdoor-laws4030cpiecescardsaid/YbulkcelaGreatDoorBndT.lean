/-
  bound: the second loop's steps (seat b4030aZD).
-/
import Derived.Test.YbulkcelaGreatDoorBndS
namespace Go.Proofs.YbulkcelaGreatDoor
open Go.RowKit Go.MapKept Go.Lib Go.Shelf Go.Maps Go.Sort

theorem BSt.skip {w wr : World} {ks : List Int} {vs : Nat → Value} {V : Nat → Nat} {c : Nat} {fw : Value} {fl : Nat → Value} {cb lo hi : Nat} (h : BSt w ks vs V c fw fl wr) (g : BCol w ks V c fw fl wr cb lo hi) (hno : ∀ j : Nat, ks[j]? ≠ some (V c : Int)) : BSt w ks vs V (c + 1) fw fl wr := by
  refine ⟨h.below, h.vis, h.idx, h.flb, .inr ⟨cb, lo, hi, g.lo4, g.lohi, g.hiw, g.map, g.col, g.found, fun j k hj => ?_, g.apart, g.apart2⟩⟩
  rw [flK_no V c k (fun e => hno j (by rw [hj, e]))]
  exact g.rows j k hj

theorem map_set {α : Type} (K j : Nat) (f : Nat → α) (v : α) : ((List.range K).map f).toArray.setIfInBounds j v = ((List.range K).map fun i => if i = j then v else f i).toArray := by
  refine Array.ext_getElem? fun i => ?_
  rw [Array.getElem?_setIfInBounds]
  by_cases e : j = i
  · subst e
    rw [if_pos rfl]
    by_cases hj : j < K
    · simp [hj]
    · simp [hj]
  · rw [if_neg e]
    by_cases hi : i < K
    · simp [hi, show ¬ i = j from fun x => e x.symm]
    · simp [hi]

theorem BSt.push {w wr w2 : World} {ks : List Int} {vs : Nat → Value} {V : Nat → Nat} {c j g2 c2 : Nat} {fw : Value} {fl : Nat → Value} {cb lo hi : Nat} {o : Obj} (h : BSt w ks vs V c fw fl wr) (g : BCol w ks V c fw fl wr cb lo hi) (hnd : ks.Nodup) (hj : ks[j]? = some (V c : Int))
    (hg : (wr.alloc o).grownBy w2 (fl j).ownBlock) (hown : w2.ownsRow hi 3 1 (.slice (some ⟨g2, 0, none⟩) ((flK V c (V c)).length + 1) c2) ((flK V c (V c)).length + 1) (ints (flK V c (V c)) ++ [.int .i64 (c : Nat)])) (hlie : (fl j).ownBlock = some g2 ∨ g2 = wr.heap.size + 1) :
    w2.cell? ⟨w.heap.size + 1, j, none⟩ = some (fl j) ∧ w2.frozen? ⟨w.heap.size + 1, j, none⟩ = false ∧ BSt w ks vs V (c + 1) fw (fun i => if i = j then .slice (some ⟨g2, 0, none⟩) ((flK V c (V c)).length + 1) c2 else fl i) (w2.setCell ⟨w.heap.size + 1, j, none⟩ (.slice (some ⟨g2, 0, none⟩) ((flK V c (V c)).length + 1) c2)) := by
  have hjl := (List.getElem?_eq_some_iff.1 hj).1
  have hlo := g.lo4
  have hlh := g.lohi
  have hhw := g.hiw
  have hfl : ∀ i gg, i < ks.length → (fl i).ownBlock = some gg → hi ≤ gg ∧ gg < wr.heap.size := fun i gg hi' hg => by
    obtain ⟨a1, cur', hc'⟩ := own_block (g.rows i _ (List.getElem?_eq_getElem hi')) hg
    exact ⟨a1, (Array.getElem?_eq_some_iff.1 hc').1⟩
  have hlow : ∀ k, k < wr.heap.size → (fl j).ownBlock ≠ some k → w2.heap[k]? = wr.heap[k]? := fun k hk hne => (hg.block k (by simp; omega) (fun e => hne e.symm)).trans (Below.heap_alloc _ _ _ hk)
  have hlow2 : ∀ k, k < hi → w2.heap[k]? = wr.heap[k]? := fun k hk => hlow k (by omega) (fun e => by have := (hfl j k hjl e).1; omega)
  have hfb := (hlow2 (w.heap.size + 1) (by omega)).trans h.flb
  obtain ⟨w3, hw3⟩ : ∃ w3, w2.setCell ⟨w.heap.size + 1, j, none⟩ (.slice (some ⟨g2, 0, none⟩) ((flK V c (V c)).length + 1) c2) = w3 := ⟨_, rfl⟩
  have hk3 : ∀ k, k ≠ w.heap.size + 1 → w3.heap[k]? = w2.heap[k]? := fun k hne => by rw [← hw3]; exact Below.heap_setCell _ _ _ _ hne
  have hs3 : w3.heap.size = w2.heap.size := by rw [← hw3]; simp [World.setCell]
  have hsz := hg.size
  have hsz' : wr.heap.size + 1 ≤ w2.heap.size := by simpa using hsz
  have hg2 : hi ≤ g2 := by
    rcases hlie with e | e
    · exact (hfl j g2 hjl e).1
    · omega
  refine ⟨(Joins.cell_of_block hfb j).trans (by simp [hjl]), Joins.unfrozen_of_block hfb j, ?_⟩
  rw [hw3]
  obtain ⟨cur, hv1, hv2⟩ := h.vis
  have hnew : ∀ gg, (∃ i, i < ks.length ∧ i ≠ j ∧ (fl i).ownBlock = some gg) → gg ≠ g2 := by
    rintro gg ⟨i, hi', hne, hgi⟩ rfl
    rcases hlie with e | e
    · exact hne (g.apart i j gg hi' hjl hgi e)
    · have := (hfl i gg hi' hgi).2; omega
  have hsz0 := h.below.size
  refine ⟨?_, ⟨cur, ?_, hv2⟩, ?_, ?_, .inr ⟨cb, lo, hi, hlo, hlh, by omega, ?_, ?_, ?_, fun i k hi' => ?_, fun a b gg ha hb e1 e2 => ?_, fun i gg hi' e => ?_⟩⟩
  · refine h.below.trans ⟨?_, ?_, ?_, by omega, fun k hk => ?_⟩
    · rw [← hw3]; exact hg.os
    · rw [← hw3]; exact hg.tape
    · rw [← hw3]; exact hg.output
    · rw [hk3 k (by omega), hlow2 k (by omega)]
  · rw [hk3 _ (by omega), hlow2 _ (by omega)]; exact hv1
  · rw [hk3 _ (by omega), hlow2 _ (by omega)]; exact h.idx
  · rw [← hw3]
    have := Joins.block_setCell (i := j) hfb (.slice (some ⟨g2, 0, none⟩) ((flK V c (V c)).length + 1) c2)
    rw [map_set] at this
    exact this
  · refine g.map.block ?_
    rw [hk3 _ (by omega), hlow2 _ (by omega)]
  · refine g.col.kept fun k k1 k2 => ?_
    rw [hk3 _ (by omega), hlow2 _ (by omega)]
  · obtain ⟨n, xs, hfr⟩ := g.found
    refine ⟨n, xs, owns_far hfr fun gg hgg => ?_⟩
    have hgl := (own_block hfr hgg).1
    obtain ⟨_, cur', hc'⟩ := own_block hfr hgg
    rw [hk3 _ (by omega), hlow gg (Array.getElem?_eq_some_iff.1 hc').1 (fun e => g.apart2 j gg hjl e hgg)]
  · have hil := (List.getElem?_eq_some_iff.1 hi').1
    by_cases e : i = j
    · subst e
      rw [hj] at hi'
      injection hi' with hi'
      subst hi'
      rw [flK_yes V c _ rfl]
      simp only [if_true, List.length_append, List.length_singleton, ints, List.map_append, List.map_cons, List.map_nil]
      refine owns_far hown fun gg hgg => ?_
      simp [Value.ownBlock] at hgg
      rw [hk3 _ (by omega)]
    · have hne : (V c : Int) ≠ k := fun e2 => e ((List.getElem?_inj hil hnd).1 (by rw [hi', hj, e2]))
      rw [flK_no V c k hne]
      simp only [if_neg e]
      refine owns_far (g.rows i k hi') fun gg hgg => ?_
      have := hfl i gg hil hgg
      rw [hk3 _ (by omega), hlow gg (by omega) (fun e2 => e (g.apart i j gg hil hjl hgg e2))]
  · by_cases ea : a = j
    · by_cases eb : b = j
      · rw [ea, eb]
      · simp only [if_pos ea, if_neg eb] at e1 e2
        exfalso
        simp [Value.ownBlock] at e1
        exact hnew gg ⟨b, hb, eb, e2⟩ e1.symm
    · by_cases eb : b = j
      · simp only [if_neg ea, if_pos eb] at e1 e2
        exfalso
        simp [Value.ownBlock] at e2
        exact hnew gg ⟨a, ha, ea, e1⟩ e2.symm
      · simp only [if_neg ea, if_neg eb] at e1 e2
        exact g.apart a b gg ha hb e1 e2
  · by_cases ei : i = j
    · simp only [if_pos ei] at e
      simp [Value.ownBlock] at e
      subst e
      rcases hlie with e2 | e2
      · exact g.apart2 j g2 hjl e2
      · intro e3
        obtain ⟨n, xs, hfr⟩ := g.found
        obtain ⟨_, cur', hc'⟩ := own_block hfr e3
        have := (Array.getElem?_eq_some_iff.1 hc').1
        omega
    · simp only [if_neg ei] at e
      exact g.apart2 i gg hi' e
end Go.Proofs.YbulkcelaGreatDoor
