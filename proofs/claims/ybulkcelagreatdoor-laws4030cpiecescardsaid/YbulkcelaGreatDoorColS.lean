/-
  The column while it is made (seat b4030aZD).
-/
import Derived.Test.YbulkcelaGreatDoorFrom
namespace Go.Proofs.YbulkcelaGreatDoor
open Go.RowKit Go.MapKept Go.Lib Go.Shelf Go.Maps

/-- The places, among the first i kinds, of those that hold a value. -/
def posK (ks : List Int) (i : Nat) : List Nat := (List.range i).filter fun j => decide (0 ≤ ks.getD j 0)
/-- The numbers of the values. -/
def numEnts (ks : List Int) (ps : List Nat) : Ents := (List.range ps.length).map fun t => (valS (ks.getD (ps.getD t 0) 0).toNat, .int .i32 ((t + 1 : Nat) : Int))

theorem posK_succ_no (ks : List Int) (i : Nat) (h : ¬ 0 ≤ ks.getD i 0) : posK ks (i + 1) = posK ks i := by
  unfold posK
  rw [List.range_succ, List.filter_append]
  simp only [List.filter_cons, List.filter_nil]
  rw [if_neg (by simpa using h), List.append_nil]
theorem posK_succ_yes (ks : List Int) (i : Nat) (h : 0 ≤ ks.getD i 0) : posK ks (i + 1) = posK ks i ++ [i] := by
  unfold posK
  rw [List.range_succ, List.filter_append]
  simp only [List.filter_cons, List.filter_nil]
  rw [if_pos (by simpa using h)]
theorem posK_mem {ks : List Int} {i j : Nat} (h : j ∈ posK ks i) : j < i ∧ 0 ≤ ks.getD j 0 := by
  unfold posK at h
  rw [List.mem_filter, List.mem_range] at h
  exact ⟨h.1, by simpa using h.2⟩
theorem posK_le (ks : List Int) (i : Nat) : (posK ks i).length ≤ i := by
  unfold posK
  exact Nat.le_trans (List.length_filter_le _ _) (by simp)

theorem numEnts_snoc (ks : List Int) (ps : List Nat) (i : Nat) : numEnts ks (ps ++ [i]) = numEnts ks ps ++ [(valS (ks.getD i 0).toNat, .int .i32 ((ps.length + 1 : Nat) : Int))] := by
  unfold numEnts
  rw [List.length_append, List.length_singleton, List.range_succ, List.map_append]
  congr 1
  · refine List.map_congr_left fun t ht => ?_
    have := List.mem_range.1 ht
    simp [List.getD, List.getElem?_append_left this]
  · simp [List.getD]

/-- A column under way. -/
structure ColJ (lo : Nat) (w0 wr : World) (cb nb vb K hb hc : Nat) (ne : Ents) (hl : List Value) : Prop where
  below : Below lo w0 wr
  cbl : lo ≤ cb
  nbl : lo ≤ nb
  vbl : lo ≤ vb
  num : MapL wr nb ne
  val : ∃ cur, wr.heap[vb]? = some (.cells cur 21 (0, 0)) ∧ cur.size = K
  box : wr.heap[cb]? = some (.cells #[.map (some nb), .slice (some ⟨vb, 0, none⟩) K K, .slice (some ⟨hb, 0, none⟩) hl.length hc] 158 (0, 0))
  row : wr.ownsRow lo 44 1 (.slice (some ⟨hb, 0, none⟩) hl.length hc) hl.length hl

/-- The holders' own rows. -/
def HRows (lo : Nat) (wr : World) (hl : List Value) (ps : List Nat) : Prop := ∀ t j, ps[t]? = some j → ∃ g c, hl[t + 1]? = some (.slice (some ⟨g, 0, none⟩) 1 c) ∧ wr.ownsRow lo 3 1 (.slice (some ⟨g, 0, none⟩) 1 c) 1 [.int .i64 (j : Nat)]

theorem HRows.kept {lo : Nat} {w w' : World} {hl : List Value} {ps : List Nat} (h : HRows lo w hl ps) (hk : ∀ g c xs, w.ownsRow lo 3 1 (.slice (some ⟨g, 0, none⟩) 1 c) 1 xs → w'.ownsRow lo 3 1 (.slice (some ⟨g, 0, none⟩) 1 c) 1 xs) : HRows lo w' hl ps := fun t j hj => by
  obtain ⟨g, c, h1, h2⟩ := h t j hj
  exact ⟨g, c, h1, hk g c _ h2⟩

section
variable {lo : Nat} {w0 w w' : World} {cb nb vb K hb hc : Nat} {ne ne' : Ents} {hl : List Value} {ps : List Nat}

/-- A number is given. -/
theorem ColJ.number (h : ColJ lo w0 w cb nb vb K hb hc ne hl) (hM : MapL w' nb ne') (hg : w.grownBy w' (some nb)) : ColJ lo w0 w' cb nb vb K hb hc ne' hl := by
  obtain ⟨cur, hv, hs⟩ := h.val
  have hc1 := map_no_cells h.num
  exact ⟨h.below.trans ⟨hg.os, hg.tape, hg.output, hg.size, fun k hk => hg.block k (by have := h.num.lt; have := h.nbl; omega) (fun e => by injection e with e; have := h.nbl; omega)⟩, h.cbl, h.nbl, h.vbl, hM, ⟨cur, (hg.block vb (Array.getElem?_eq_some_iff.1 hv).1 (fun e => by injection e with e; subst e; exact hc1 _ _ _ hv)).trans hv, hs⟩, (hg.block cb (Array.getElem?_eq_some_iff.1 h.box).1 (fun e => by injection e with e; subst e; exact hc1 _ _ _ h.box)).trans h.box, row_map h.row h.num hg⟩

/-- Only new blocks. -/
theorem ColJ.later (h : ColJ lo w0 w cb nb vb K hb hc ne hl) (hb' : Below w.heap.size w w') : ColJ lo w0 w' cb nb vb K hb hc ne hl := by
  obtain ⟨cur, hv, hs⟩ := h.val
  have hlw : lo ≤ w.heap.size := by have := h.num.lt; have := h.nbl; omega
  exact ⟨h.below.trans (hb'.mono hlw), h.cbl, h.nbl, h.vbl, h.num.block (hb'.block _ h.num.lt), ⟨cur, (hb'.block vb (Array.getElem?_eq_some_iff.1 hv).1).trans hv, hs⟩, (hb'.block cb (Array.getElem?_eq_some_iff.1 h.box).1).trans h.box, row_below h.row hb'⟩

/-- A value is stored. -/
theorem ColJ.value (h : ColJ lo w0 w cb nb vb K hb hc ne hl) (i : Nat) (v : Value) : ColJ lo w0 (w.setCell ⟨vb, i, none⟩ v) cb nb vb K hb hc ne hl := by
  obtain ⟨cur, hv, hs⟩ := h.val
  have hk : ∀ k, k < w.heap.size → k ≠ vb → (w.setCell ⟨vb, i, none⟩ v).heap[k]? = w.heap[k]? := fun k _ hne => Below.heap_setCell _ _ _ _ hne
  refine ⟨h.below.setCell (p := ⟨vb, i, none⟩) h.vbl _, h.cbl, h.nbl, h.vbl, map_one h.num hv hk, ⟨_, Joins.block_setCell (i := i) hv _, by simpa using hs⟩, (hk cb (Array.getElem?_eq_some_iff.1 h.box).1 (fun e => by have h2 := h.box; rw [e, hv] at h2; cases h2)).trans h.box, row_one h.row hv (by decide) hk⟩

/-- The holders have grown; they are stored. -/
theorem ColJ.grow {v : Value} (h : ColJ lo w0 w cb nb vb K hb hc ne hl) (hb' : Below w.heap.size w w') {w2 : World} (hg : w'.grownBy w2 (Value.slice (some ⟨hb, 0, none⟩) hl.length hc).ownBlock) (hrow : w2.ownsRow lo 44 1 v (hl.length + 1) (hl ++ [.slice none 0 0])) :
    ∃ hb2 hc2, v = .slice (some ⟨hb2, 0, none⟩) (hl.length + 1) hc2 ∧ w2.cell? ⟨cb, 2, none⟩ = some (.slice (some ⟨hb, 0, none⟩) hl.length hc) ∧ w2.frozen? ⟨cb, 2, none⟩ = false ∧ ColJ lo w0 (w2.setCell ⟨cb, 2, none⟩ (.slice (some ⟨hb2, 0, none⟩) (hl.length + 1) hc2)) cb nb vb K hb2 hc2 ne (hl ++ [.slice none 0 0]) := by
  obtain ⟨hb2, hc2, rfl⟩ := Joins.ownsRow_form hrow (by omega)
  have h1 := h.later hb'
  obtain ⟨cur, hv, hs⟩ := h1.val
  have hlw : lo ≤ w'.heap.size := by have := h1.num.lt; have := h1.nbl; omega
  have hnb : ∀ (k : Nat) (cs : Array Value) (t : TypeId) (f : Nat × Nat), w'.heap[k]? = some (Obj.cells cs t f) → t ≠ 44 → w2.heap[k]? = w'.heap[k]? := fun k cs t f hk ht => by
    refine hg.block k (Array.getElem?_eq_some_iff.1 hk).1 (fun e => ?_)
    obtain ⟨_, cur, hc⟩ := own_block h1.row e.symm
    rw [hk] at hc
    injection hc with hc
    injection hc with _ e5 _
    exact ht e5
  have hbox2 := (hnb cb _ _ _ h1.box (by decide)).trans h1.box
  have hval2 := (hnb vb _ _ _ hv (by decide)).trans hv
  have hnum2 := grown_map h1.num h1.row hg
  have hk : ∀ k, k < w2.heap.size → k ≠ cb → (w2.setCell ⟨cb, 2, none⟩ (.slice (some ⟨hb2, 0, none⟩) (hl.length + 1) hc2)).heap[k]? = w2.heap[k]? := fun k _ hne => Below.heap_setCell _ _ _ _ hne
  refine ⟨hb2, hc2, rfl, Joins.cell_of_block hbox2 2, Joins.unfrozen_of_block hbox2 2, ?_, h.cbl, h.nbl, h.vbl, map_one hnum2 hbox2 hk, ⟨cur, (hk vb (Array.getElem?_eq_some_iff.1 hval2).1 (fun e => by rw [e, hbox2] at hval2; cases hval2)).trans hval2, hs⟩, ?_, ?_⟩
  · exact ((h1.below.trans ⟨hg.os, hg.tape, hg.output, hg.size, fun k hk => hg.block k (by omega) (fun e => by have := (own_block h1.row e.symm).1; omega)⟩)).setCell (p := ⟨cb, 2, none⟩) h.cbl _
  · have := Joins.block_setCell (i := 2) hbox2 (.slice (some ⟨hb2, 0, none⟩) (hl.length + 1) hc2)
    simpa using this
  · have := row_one hrow hbox2 (by decide) hk
    simpa using this

/-- A holder's row is stored. -/
theorem ColJ.holder (h : ColJ lo w0 w cb nb vb K hb hc ne hl) (hb' : Below w.heap.size w w') (t : Nat) (v : Value) : ColJ lo w0 (w'.setCell ⟨hb, t, none⟩ v) cb nb vb K hb hc ne (hl.set t v) := by
  have h1 := h.later hb'
  obtain ⟨cur, hv, hs⟩ := h1.val
  obtain ⟨_, ⟨e, _⟩ | ⟨g, cap, cu, e, e2, hh, e4, e5, e6, e7⟩⟩ := h1.row
  · cases e
  · injection e with e1 e8 e9
    injection e1 with e1
    injection e1 with e1 _ _
    subst e1 e9
    have hk : ∀ k, k < w'.heap.size → k ≠ hb → (w'.setCell ⟨hb, t, none⟩ v).heap[k]? = w'.heap[k]? := fun k _ hne => Below.heap_setCell _ _ _ _ hne
    refine ⟨h1.below.setCell (p := ⟨hb, t, none⟩) e2 _, h.cbl, h.nbl, h.vbl, map_one h1.num hh hk, ⟨cur, (hk vb (Array.getElem?_eq_some_iff.1 hv).1 (fun e => by rw [e, hh] at hv; cases hv)).trans hv, hs⟩, ?_, ?_⟩
    · rw [List.length_set]
      exact (hk cb (Array.getElem?_eq_some_iff.1 h1.box).1 (fun e => by have h2 := h1.box; rw [e, hh] at h2; cases h2)).trans h1.box
    · rw [List.length_set]
      refine ⟨by simp, .inr ⟨hb, hc, cu.setIfInBounds t v, rfl, e2, Joins.block_setCell (i := t) hh _, e4, e5, by simpa using e6, ?_⟩⟩
      rw [Array.toList_setIfInBounds, List.take_set, e7]
end

theorem row_high {lo e size n : Nat} {w w' : World} {v : Value} {xs : List Value} (h : w.ownsRow lo e size v n xs) (hk : ∀ k, lo ≤ k → k < w.heap.size → w'.heap[k]? = w.heap[k]?) : w'.ownsRow lo e size v n xs := by
  obtain ⟨h0, h1⟩ := h
  refine ⟨h0, ?_⟩
  rcases h1 with h1 | ⟨g, cap, cur, e1, e2, e3, e4⟩
  · exact .inl h1
  · exact .inr ⟨g, cap, cur, e1, e2, (hk g e2 (Array.getElem?_eq_some_iff.1 e3).1).trans e3, e4⟩

theorem ColJ.high {lo : Nat} {w0 w w' : World} {cb nb vb K hb hc : Nat} {ne : Ents} {hl : List Value} (h : ColJ lo w0 w cb nb vb K hb hc ne hl) (hk : ∀ k, lo ≤ k → k < w.heap.size → w'.heap[k]? = w.heap[k]?) : ColJ lo w' w' cb nb vb K hb hc ne hl := by
  obtain ⟨cur, hv, hs⟩ := h.val
  exact ⟨Below.refl _ _, h.cbl, h.nbl, h.vbl, h.num.block (hk nb h.nbl h.num.lt), ⟨cur, (hk vb h.vbl (Array.getElem?_eq_some_iff.1 hv).1).trans hv, hs⟩, (hk cb h.cbl (Array.getElem?_eq_some_iff.1 h.box).1).trans h.box, row_high h.row hk⟩
end Go.Proofs.YbulkcelaGreatDoor
