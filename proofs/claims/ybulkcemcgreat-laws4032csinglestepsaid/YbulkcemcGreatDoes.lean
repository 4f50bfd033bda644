/-
  LawS4032CSingleStep: 'refillsOver': the groups sorted, and what each does (seat b4032aZ).
-/
import Derived.Test.YbulkcemcGreatSortG
namespace Go.Proofs.YbulkcemcGreat
open Go.RowKit Go.Shelf Go.Lib Go.Sort

theorem none13 (W : World) (fv : Value) : Calls Ybaz.prog 13 #[.slice none 0 0, fv] W fun e w' => e = .returned (.tuple #[]) ∧ w' = W := AnyF.slices_SortFunc_none Ybaz.sortG none 0 fv W

theorem MapAt.of_but {b : Nat} {w w' : World} {v : Value} {f : List Nat} (h : MapAt w v f) (hb : But b w w') (hq : v.ownBlock ≠ some b) : MapAt w' v f := by
  obtain ⟨g, c, rfl, hg, hc⟩ := h
  have hne : g ≠ b := fun e => hq (by rw [e]; rfl)
  exact ⟨g, c, rfl, by have := hb.size; omega, fun j x hj => (hb.cell g j hne hg).trans (hc j x hj)⟩

theorem MapAt.setCell {w : World} {v u : Value} {f : List Nat} {vb o : Nat} (h : MapAt w v f) (hq : v.ownBlock ≠ some vb) : MapAt (w.setCell ⟨vb, o, none⟩ u) v f := by
  obtain ⟨g, c, rfl, hg, hc⟩ := h
  have hne : g ≠ vb := fun e => hq (by rw [e]; rfl)
  exact ⟨g, c, rfl, by simpa [World.setCell] using hg, fun j x hj => (World.cell?_of_block (Below.heap_setCell _ _ _ _ hne)).trans (hc j x hj)⟩

theorem holds_of_row {w : World} {B b c : Nat} {E : List Int} (h : w.ownsRow B 39 2 (.slice (some ⟨b, 0, none⟩) E.length c) E.length (E.flatMap encB)) : HoldsK encB 2 w b 0 E.toArray := by
  have hget : ∀ (l : List Int) (t : Nat), t < l.length * 2 → (l.flatMap encB)[t]? = (encB (l.getD (t / 2) 0))[t % 2]? := by
    intro l
    induction l with
    | nil => intro t ht; simp at ht
    | cons a r ih =>
      intro t ht
      simp only [List.length_cons] at ht
      rw [List.flatMap_cons]
      by_cases h2 : t < 2
      · rw [List.getElem?_append_left (by show t < 2; exact h2), show t / 2 = 0 by omega, show t % 2 = t by omega]; rfl
      · rw [List.getElem?_append_right (by show 2 ≤ t; omega)]
        show (r.flatMap encB)[t - 2]? = _
        rw [ih (t - 2) (by omega), show t / 2 = (t - 2) / 2 + 1 by omega, show t % 2 = (t - 2) % 2 by omega]
        simp [List.getD]
  obtain ⟨hl, ⟨e1, _⟩ | ⟨g, cp, cur, e1, hB, hh, hn, hcm, hcs, htk⟩⟩ := h
  · cases e1
  cases e1
  intro t ht
  rw [size_flatK] at ht
  have ht' : t < E.length * 2 := by simpa using ht
  rw [get_flatK _ _ _ _ ht, Nat.zero_add]
  refine ⟨?_, Joins.unfrozen_of_block hh _⟩
  have h1 := hget E t ht'
  rw [← htk, List.getElem?_take, if_pos ht'] at h1
  rw [Joins.cell_of_block hh]
  have h2 : cur[t]? = (encB (E.getD (t / 2) 0))[t % 2]? := by simpa using h1
  rw [h2]
  have e3 : E.toArray[t / 2]! = E.getD (t / 2) 0 := by
    rw [getElem!_pos _ _ (by simp; omega)]; simp [List.getD, show t / 2 < E.length by omega]
  rw [e3]
  rcases (show t % 2 = 0 ∨ t % 2 = 1 by omega) with e | e <;> rw [e] <;> rfl

/-- Some groups' maps are laid. -/
structure DoesI (B : Nat) (w2 : World) (vb cap : Nat) (P : List GP) (S : List Int) (i : Nat) (wr : World) : Prop where
  size : w2.heap.size ≤ wr.heap.size
  low : Below B w2 wr
  other : ∀ j, j < w2.heap.size → j ≠ vb → (∀ x ∈ P, j ≠ x.2.2.1) → wr.heap[j]? = w2.heap[j]?
  blk : ∃ cur : Array Value, wr.heap[vb]? = some (.cells cur 54 (0, 0)) ∧ cur.size = cap * 3 ∧ (∀ k x, P[k]? = some x → cur[k * 3]? = some (.int .i64 x.1) ∧ cur[k * 3 + 1]? = some (evP x)) ∧
    ∀ k x, k < i → P[k]? = some x → ∃ dv, cur[k * 3 + 2]? = some dv ∧ MapAt wr dv (rmap S x.2.1) ∧ ∀ q, dv.ownBlock = some q → w2.heap.size ≤ q
  rows : ∀ k x, i ≤ k → P[k]? = some x → wr.ownsRow B 39 2 (evP x) x.2.1.length (x.2.1.flatMap encB)

theorem DoesI.step {B : Nat} {w2 wr w3 : World} {vb cap i : Nat} {P : List GP} {S : List Int} {x : GP} {v : Value} (h : DoesI B w2 vb cap P S i wr) (hG : SortedG B w2 vb cap P) (hx : P[i]? = some x) (hbut : But x.2.2.1 wr w3) (hm : MapAt w3 v (rmap S x.2.1)) (hq : ∀ q, v.ownBlock = some q → wr.heap.size ≤ q) :
    DoesI B w2 vb cap P S (i + 1) (w3.setCell ⟨vb, i * 3 + 2, none⟩ v) := by
  obtain ⟨h1, h2, h3, ⟨cur, c1, c2, c3, c4⟩, h5⟩ := h
  have hxP : x ∈ P := List.mem_of_getElem? hx
  have hvb2 : vb < w2.heap.size := by obtain ⟨cu, e, _⟩ := hG.blk; exact (Array.getElem?_eq_some_iff.1 e).1
  have hbx : B ≤ x.2.2.1 ∧ x.2.2.1 < w2.heap.size := (hG.rows x hxP).lt _ rfl
  have hvx : vb ≠ x.2.2.1 := fun e => hG.apart x hxP e.symm
  have hs3 := hbut.size
  have hlt := (List.getElem?_eq_some_iff.1 hx).1
  have hcap := hG.few
  have c1' : w3.heap[vb]? = some (.cells cur 54 (0, 0)) := (hbut.same vb hvx (by omega)).trans c1
  refine ⟨by simp [World.setCell]; omega, ?_, fun j hj hv hp => ?_, ⟨cur.setIfInBounds (i * 3 + 2) v, Joins.block_setCell (i := i * 3 + 2) c1' _, by simpa using c2, fun k y hy => ?_, fun k y hk hy => ?_⟩, fun k y hk hy => ?_⟩
  · exact (h2.trans (hbut.low.mono hbx.1)).setCell (p := ⟨vb, i * 3 + 2, none⟩) hG.low _
  · exact (Below.heap_setCell _ _ _ _ hv).trans ((hbut.same j (hp x hxP) (by omega)).trans (h3 j hj hv hp))
  · obtain ⟨e1, e2⟩ := c3 k y hy
    rw [Array.getElem?_setIfInBounds, if_neg (by omega), Array.getElem?_setIfInBounds, if_neg (by omega)]
    exact ⟨e1, e2⟩
  · by_cases hki : k = i
    · subst hki
      rw [hx] at hy
      cases hy
      refine ⟨v, by rw [Array.getElem?_setIfInBounds, if_pos rfl, if_pos (by omega)], hm.setCell (fun e => by have := hq _ e; omega), fun q e => by have := hq q e; omega⟩
    · obtain ⟨dv, e1, e2, e3⟩ := c4 k y (by omega) hy
      refine ⟨dv, by rw [Array.getElem?_setIfInBounds, if_neg (by omega)]; exact e1, ?_, e3⟩
      exact (e2.of_but hbut (fun e => by have := e3 _ e; omega)).setCell (fun e => by have := e3 _ e; omega)
  · have hyP : y ∈ P := List.mem_of_getElem? hy
    have hyx : y.2.2.1 ≠ x.2.2.1 := by
      have hap := List.pairwise_iff_getElem.1 hG.apart2 i k hlt (List.getElem?_eq_some_iff.1 hy).1 (by omega)
      rw [(List.getElem?_eq_some_iff.1 hx).2, (List.getElem?_eq_some_iff.1 hy).2] at hap
      exact fun e => hap.1 e.symm
    obtain ⟨r0, ⟨e1, _⟩ | ⟨g, cp, cu, e1, hB2, hh2, rest⟩⟩ := h5 k y (by omega) hy
    · cases e1
    · cases e1
      exact ⟨r0, .inr ⟨_, _, cu, rfl, hB2, (Below.heap_setCell _ _ _ _ (fun e => hG.apart y hyP e)).trans ((hbut.same _ hyx (Array.getElem?_eq_some_iff.1 hh2).1).trans hh2), rest⟩⟩
end Go.Proofs.YbulkcemcGreat
