/-
  LawS4030CPieces: what its second loop keeps (seat b4030aZD).
-/
import Derived.Test.YbulkcelaGreatDoorLawA
import Derived.Test.YbulkcelaGreatDoorLawR
namespace Go.Proofs.YbulkcelaGreatDoor
open Go.RowKit Go.MapKept Go.Lib Go.Shelf Go.Maps Go.Sort

/-- The kind of a row. -/
def keyR (V : Nat → Nat) (len : Nat) (M : Nat → Nat) (i : Nat) : Int := if M i % 4 < 3 ∧ accB V len (M i % 4) = true then ((M i % 4 : Nat) : Int) else -1
theorem keyR_bd (V : Nat → Nat) (len : Nat) (M : Nat → Nat) (i : Nat) : -1 ≤ keyR V len M i ∧ keyR V len M i ≤ 2 := by
  unfold keyR
  split <;> omega

/-- The visit of a row. -/
def VisR (w : World) (V : Nat → Nat) (len : Nat) (v : Value) (k : Int) : Prop :=
  (v = .map none ∧ k = -1) ∨ ∃ r m, v = .map (some r) ∧ m < 3 ∧ MapL w r [(aS, .string (valS m))] ∧ k = if accB V len m = true then ((m : Nat) : Int) else -1
theorem VisR.later {w w' : World} {V : Nat → Nat} {len : Nat} {v : Value} {k : Int} (h : VisR w V len v k) (hk : ∀ r l, MapL w r l → MapL w' r l) : VisR w' V len v k := by
  rcases h with h | ⟨r, m, h1, h2, h3, h4⟩
  · exact .inl h
  · exact .inr ⟨r, m, h1, h2, hk _ _ h3, h4⟩
theorem VisR.ask {w : World} {V : Nat → Nat} {len : Nat} {v : Value} {k : Int} {b0 : Nat} (h : VisR w V len v k) (hb : w.heap.size ≤ b0 + 1) : ∃ kc, AskIn w b0 len V v k kc := by
  rcases h with ⟨rfl, rfl⟩ | ⟨r, m, rfl, h2, h3, rfl⟩
  · exact ⟨_, .nil⟩
  · have hr := h3.lt
    by_cases ha : accB V len m = true
    · rw [if_pos ha]
      exact ⟨_, .kept r m h2 (by omega) h3 (accB_true.1 ha)⟩
    · rw [if_neg ha]
      exact ⟨_, .lost r m h2 (by omega) h3 (fun i hi e => ha (accB_true.2 ⟨i, hi, e⟩))⟩

/-- A row that the law has laid. -/
structure HR (w : World) (H : Nat) (V : Nat → Nat) (len : Nat) (key C : Nat → Int) (i : Nat) : Prop where
  c0 : w.cell? ⟨H, i * 5, none⟩ = some (.int .u64 0)
  c1 : w.cell? ⟨H, i * 5 + 1, none⟩ = some (.int .i64 0)
  c2 : w.cell? ⟨H, i * 5 + 2, none⟩ = some (.pointer none)
  c3 : w.cell? ⟨H, i * 5 + 3, none⟩ = some (.int .i64 (C i))
  vis : ∃ v, w.cell? ⟨H, i * 5 + 4, none⟩ = some v ∧ VisR w V len v (key i)
theorem HR.row {w : World} {H : Nat} {V : Nat → Nat} {len : Nat} {key C : Nat → Int} {i b0 : Nat} (h : HR w H V len key C i) (hb : w.heap.size ≤ b0 + 1) : HRow w H b0 len V key C i := by
  obtain ⟨v, h1, h2⟩ := h.vis
  obtain ⟨kc, h3⟩ := h2.ask (b0 := b0) hb
  exact ⟨h.c0, h.c1, h.c2, h.c3, v, kc, h1, h3⟩

/-- Between two rows. -/
structure L2 (wB : World) (n len : Nat) (V : Nat → Nat) (key C : Nat → Int) (i : Nat) (kv cv : Value) (wr : World) : Prop where
  below : Below wB.heap.size wB wr
  blk : ∃ hs : Array Value, wr.heap[wB.heap.size]? = some (.cells hs 51 (0, 0)) ∧ hs.size = n * 5
  rows : ∀ j, j < i → HR wr wB.heap.size V len key C j
  kk : wr.ownsRow (wB.heap.size + 1) 3 1 kv (hist key C i).1.length ((hist key C i).1.map (Value.int .i64))
  cc : wr.ownsRow (wB.heap.size + 1) 53 1 cv (hist key C i).1.length ((hist key C i).2.map fun x => .float .f64 (fi x))

section
variable {wB wr w' : World} {n len : Nat} {V : Nat → Nat} {key C : Nat → Int} {i : Nat} {kv cv : Value}

theorem L2.lt (h : L2 wB n len V key C i kv cv wr) : wB.heap.size < wr.heap.size := by
  obtain ⟨hs, h1, _⟩ := h.blk
  exact (Array.getElem?_eq_some_iff.1 h1).1

theorem HR.later {w w' : World} {H : Nat} {j : Nat} (h : HR w H V len key C j) (hH : ∀ q, q < 5 → w'.cell? ⟨H, j * 5 + q, none⟩ = w.cell? ⟨H, j * 5 + q, none⟩) (hm : ∀ r l, MapL w r l → MapL w' r l) : HR w' H V len key C j := by
  obtain ⟨v, v1, v2⟩ := h.vis
  exact ⟨(hH 0 (by omega)).trans h.c0, (hH 1 (by omega)).trans h.c1, (hH 2 (by omega)).trans h.c2, (hH 3 (by omega)).trans h.c3, v, (hH 4 (by omega)).trans v1, v2.later hm⟩

theorem L2.later (h : L2 wB n len V key C i kv cv wr) (hb : Below wr.heap.size wr w') : L2 wB n len V key C i kv cv w' := by
  have hlt := h.lt
  obtain ⟨hs, b1, b2⟩ := h.blk
  exact ⟨h.below.trans (hb.mono h.below.size), ⟨hs, (hb.block _ hlt).trans b1, b2⟩, fun j hj => (h.rows j hj).later (fun _ _ => cell_block_eq (hb.block _ hlt)) (fun r l hM => hM.block (hb.block r hM.lt)), row_below h.kk hb, row_below h.cc hb⟩

/-- A row is laid: the kinds and the counts not yet. -/
structure L2x (wB : World) (n len : Nat) (V : Nat → Nat) (key C : Nat → Int) (i : Nat) (kv cv : Value) (KL DL : List Int) (wr : World) : Prop where
  below : Below wB.heap.size wB wr
  blk : ∃ hs : Array Value, wr.heap[wB.heap.size]? = some (.cells hs 51 (0, 0)) ∧ hs.size = n * 5
  rows : ∀ j, j < i + 1 → HR wr wB.heap.size V len key C j
  kk : wr.ownsRow (wB.heap.size + 1) 3 1 kv KL.length (KL.map (Value.int .i64))
  cc : wr.ownsRow (wB.heap.size + 1) 53 1 cv DL.length (DL.map fun x => .float .f64 (fi x))

theorem L2.lay {W : World} {v : Value} (h : L2 wB n len V key C i kv cv wr) (hi : i < n) (hb : Below wr.heap.size wr W) (hv : VisR W V len v (key i)) :
    (∀ q, q < 5 → ∃ old, W.cell? ⟨wB.heap.size, i * 5 + q, none⟩ = some old ∧ W.frozen? ⟨wB.heap.size, i * 5 + q, none⟩ = false) ∧ L2x wB n len V key C i kv cv (hist key C i).1 (hist key C i).2 (W.setCells wB.heap.size (i * 5) [.int .u64 0, .int .i64 0, .pointer none, .int .i64 (C i), v]) := by
  have hlt := h.lt
  have hL := h.later hb
  obtain ⟨hs, b1, b2⟩ := hL.blk
  obtain ⟨hs', e1, e2, e3, e4⟩ := setCells_block wB.heap.size 51 [.int .u64 0, .int .i64 0, .pointer none, .int .i64 (C i), v] (i * 5) W hs b1 (by simp; omega)
  obtain ⟨_, hg⟩ := setCells_low (b := wB.heap.size) (t := 51) [.int .u64 0, .int .i64 0, .pointer none, .int .i64 (C i), v] W (i * 5) hs b1
  refine ⟨fun q hq => ⟨hs[i * 5 + q]'(by omega), by rw [Joins.cell_of_block b1, Array.getElem?_eq_getElem], Joins.unfrozen_of_block b1 _⟩, ?_⟩
  obtain ⟨w', hw'⟩ : ∃ w', W.setCells wB.heap.size (i * 5) [.int .u64 0, .int .i64 0, .pointer none, .int .i64 (C i), v] = w' := ⟨_, rfl⟩
  rw [hw'] at e1 hg ⊢
  have hk : ∀ k, k < W.heap.size → k ≠ wB.heap.size → w'.heap[k]? = W.heap[k]? := fun k h1 h2 => hg.block k h1 (fun e => h2 (by injection e))
  have hm : ∀ r l, MapL W r l → MapL w' r l := fun r l hM => hM.block (hk r hM.lt (fun e => by subst e; exact map_no_cells hM _ _ _ b1))
  have hcell : ∀ q, q < 5 → w'.cell? ⟨wB.heap.size, i * 5 + q, none⟩ = [Value.int .u64 0, .int .i64 0, .pointer none, .int .i64 (C i), v][q]? := fun q hq => (Joins.cell_of_block e1 _).trans (e3 q (by simpa using hq))
  refine ⟨hL.below.grown hg hL.below.size (fun k e => by injection e with e; omega), ⟨hs', e1, e2.trans b2⟩, fun j hj => ?_, owns_far hL.kk fun g hgk => hk g ?_ ?_, owns_far (by rw [hist_len]; exact hL.cc) fun g hgk => hk g ?_ ?_⟩
  · by_cases ej : j = i
    · subst ej
      exact ⟨hcell 0 (by omega), hcell 1 (by omega), hcell 2 (by omega), hcell 3 (by omega), v, hcell 4 (by omega), hv.later hm⟩
    · refine (hL.rows j (by omega)).later (fun q hq => ?_) hm
      rw [Joins.cell_of_block e1, e4 _ (.inl (by omega)), Joins.cell_of_block b1]
  · obtain ⟨_, cu, hcu⟩ := own_block hL.kk hgk
    exact (Array.getElem?_eq_some_iff.1 hcu).1
  · have := (own_block hL.kk hgk).1
    omega
  · obtain ⟨_, cu, hcu⟩ := own_block hL.cc hgk
    exact (Array.getElem?_eq_some_iff.1 hcu).1
  · have := (own_block hL.cc hgk).1
    omega

theorem L2x.lt {KL DL : List Int} (h : L2x wB n len V key C i kv cv KL DL wr) : wB.heap.size < wr.heap.size := by
  obtain ⟨hs, h1, _⟩ := h.blk
  exact (Array.getElem?_eq_some_iff.1 h1).1

/-- A row of integers or of floats turns. -/
theorem L2x.turn {KL DL : List Int} {base e size m : Nat} {u : Value} {xs : List Value} (h : L2x wB n len V key C i kv cv KL DL wr) (hu : wr.ownsRow base e size u m xs) (hbase : wB.heap.size + 1 ≤ base) (hg : wr.grownBy w' u.ownBlock) :
    Below wB.heap.size wB w' ∧ (∃ hs : Array Value, w'.heap[wB.heap.size]? = some (.cells hs 51 (0, 0)) ∧ hs.size = n * 5) ∧ ∀ j, j < i + 1 → HR w' wB.heap.size V len key C j := by
  have hlt := h.lt
  have hlow : ∀ k, k < wB.heap.size + 1 → w'.heap[k]? = wr.heap[k]? := fun k hk => hg.block k (by omega) (fun e => by have := (own_block hu e.symm).1; omega)
  obtain ⟨hs, b1, b2⟩ := h.blk
  refine ⟨h.below.grown hg (by omega) (fun k e => by have := (own_block hu e).1; omega), ⟨hs, (hlow _ (by omega)).trans b1, b2⟩, fun j hj => (h.rows j hj).later (fun _ _ => cell_block_eq (hlow _ (by omega))) (fun r l hM => grown_map hM hu hg)⟩

theorem L2x.pushK {KL DL KL' : List Int} {kv' : Value} (h : L2x wB n len V key C i kv cv KL DL wr) (hg : wr.grownBy w' kv.ownBlock) (hrow : w'.ownsRow (wB.heap.size + 1) 3 1 kv' KL'.length (KL'.map (Value.int .i64))) : L2x wB n len V key C i kv' cv KL' DL w' := by
  obtain ⟨a1, a2, a3⟩ := h.turn h.kk (Nat.le_refl _) hg
  exact ⟨a1, a2, a3, hrow, row_other h.cc h.kk (by decide) hg⟩
theorem L2x.pushC {KL DL DL' : List Int} {cv' : Value} (h : L2x wB n len V key C i kv cv KL DL wr) (hg : wr.grownBy w' cv.ownBlock) (hrow : w'.ownsRow (wB.heap.size + 1) 53 1 cv' DL'.length (DL'.map fun x => .float .f64 (fi x))) : L2x wB n len V key C i kv cv' KL DL' w' := by
  obtain ⟨a1, a2, a3⟩ := h.turn h.cc (Nat.le_refl _) hg
  exact ⟨a1, a2, a3, row_other h.kk h.cc (by decide) hg, hrow⟩
theorem L2x.later {KL DL : List Int} (h : L2x wB n len V key C i kv cv KL DL wr) (hb : Below wr.heap.size wr w') : L2x wB n len V key C i kv cv KL DL w' := h.pushC (grown_below hb) (row_below h.cc hb)
theorem L2x.bump {KL DL : List Int} {cb cc j : Nat} (y : Int) (h : L2x wB n len V key C i kv (.slice (some ⟨cb, 0, none⟩) DL.length cc) KL DL wr) : L2x wB n len V key C i kv (.slice (some ⟨cb, 0, none⟩) DL.length cc) KL (DL.set j y) (wr.drew.setCell ⟨cb, j, none⟩ (.float .f64 (fi y))) := by
  have h' := h.later ((Below.refl _ _).drew)
  refine h'.pushC (grown_set wr.drew cb j _) ?_
  obtain ⟨hl, ⟨e, _⟩ | ⟨g, cap, cur, e, hb, hh, h1, h2, h3, h4⟩⟩ := h'.cc
  · cases e
  cases e
  refine ⟨by simp, .inr ⟨cb, cc, cur.setIfInBounds j (.float .f64 (fi y)), ?_, hb, Joins.block_setCell (i := j) hh _, by simpa using h1, h2, by simpa using h3, ?_⟩⟩
  · simp
  · rw [List.map_set, ← h4, Array.toList_setIfInBounds, Nat.mul_one, List.length_set, Nat.mul_one, List.take_set]
theorem L2x.next {KL DL : List Int} (h : L2x wB n len V key C i kv cv KL DL wr) (he : hist key C (i + 1) = (KL, DL)) : L2 wB n len V key C (i + 1) kv cv wr := by
  have hl := hist_len key C (i + 1)
  rw [he] at hl
  refine ⟨h.below, h.blk, h.rows, by rw [he]; exact h.kk, ?_⟩
  rw [he]
  have := h.cc
  rw [hl] at this
  exact this

/-- slices.Index. -/
theorem index7 {w : World} {base : Nat} {kv : Value} {KL : List Int} (h : w.ownsRow base 3 1 kv KL.length (KL.map (Value.int .i64))) (hl : KL.length ≤ 1000) (x : Int) :
    Calls Ybaz.prog 7 #[kv, .int .i64 x] w fun e w' => e = .returned (.int .i64 (if x ∈ KL then ((KL.idxOf x : Nat) : Int) else -1)) ∧ w' = w := by
  obtain ⟨_, ⟨rfl, h0⟩ | ⟨g, cap, cur, rfl, hb, hh, h1, h2, h3, h4⟩⟩ := h
  · obtain rfl := List.eq_nil_of_length_eq_zero h0
    have hc := Any.slices_Index_int_empty Ybaz.idxI none 0 x w
    change Calls Ybaz.prog 7 _ _ _ at hc
    refine hc.mono ?_
    rintro e w' ⟨rfl, rfl⟩
    exact ⟨rfl, rfl⟩
  · have hcell : ∀ j, j < KL.length → w.cell? ⟨g, 0 + j, none⟩ = some (.int .i64 (KL.getD j 0)) := fun j hj => by
      rw [Nat.zero_add, Joins.cell_of_block hh]
      have : (KL.map (Value.int .i64))[j]? = some (.int .i64 (KL.getD j 0)) := by simp [List.getD, hj]
      rw [← h4, List.getElem?_take, if_pos (by omega)] at this
      simpa using this
    have hc := Any.slices_Index_int Ybaz.idxI g 0 KL.length cap KL x w (Nat.le_refl _) (by omega) hcell
    change Calls Ybaz.prog 7 _ _ _ at hc
    refine hc.mono ?_
    rintro e w' ⟨rfl, rfl⟩
    refine ⟨?_, rfl⟩
    by_cases hx : x ∈ KL
    · rw [if_pos hx, idxOf_hit KL KL.length (KL.idxOf x) x (List.idxOf_lt_length_of_mem hx) (Nat.le_refl _) ?_ ?_]
      · have hlt := List.idxOf_lt_length_of_mem hx
        simp [List.getD, hlt]
      · intro j hj e
        have hjl : j < KL.length := Nat.lt_trans hj (List.idxOf_lt_length_of_mem hx)
        have e' : KL[j] = x := by simpa [List.getD, hjl] using e
        have hf := List.not_of_lt_findIdx (p := (· == x)) (xs := KL) hj
        simp [e'] at hf
    · rw [if_neg hx, idxOf_miss KL KL.length x (fun j hj e => hx (by rw [← e]; exact getD_mem hj))]
end
end Go.Proofs.YbulkcelaGreatDoor
