/-
  LawS4037BPicks: THE WALK (seat b4037a).
-/
import Derived.Test.YbulkceouPicks1
import Derived.Deep.MidRow
import Derived.Lib.Builder
import Derived.BigRegion
namespace Go.Proofs.Ybulkceou
open Go.RowKit

theorem Yba.info48 : (Yba.prog.info? 48).map (fun i => (i.zero.isSome, i.size, i.bytes)) = some (true, 29, 312) := by kernel_rfl

theorem info48_parts : ∃ i z, Yba.prog.info? 48 = some i ∧ i.zero = some z ∧ i.size = 29 ∧ i.bytes = 312 := by
  have h := Yba.info48
  cases hi : Yba.prog.info? 48 with
  | none => rw [hi] at h; simp at h
  | some i =>
    rw [hi] at h
    simp at h
    obtain ⟨h1, h2, h3⟩ := h
    obtain ⟨z, hz⟩ := Option.isSome_iff_exists.1 h1
    exact ⟨i, z, rfl, hz, h2, h3⟩

def p3 {α : Type} (a b c : α) : Nat → α
  | 0 => a
  | 1 => b
  | _ => c

/-- At the head of round i of the first loop. -/
structure BR (w : World) (O J : Nat → Int) (Bf : Nat → Bool) (P : Nat → Option Nat) (i : Nat) (wr : World) : Prop where
  below : Below w.heap.size w wr
  ob : ∀ j, j < 3 → wr.cell? ⟨w.heap.size, j, none⟩ = some (.int .u64 (O j))
  jb : ∀ j, j < 3 → wr.cell? ⟨w.heap.size + 1, j, none⟩ = some (.int .u64 (J j))
  bb : ∀ j, j < 3 → wr.cell? ⟨w.heap.size + 1 + 1, j, none⟩ = some (.bool (Bf j))
  arr : wr.heap[w.heap.size + 1 + 1 + 1]? = some (.cells #[vp (P 0), vp (P 1), vp (P 2)] 26 (0, 0))
  pok : ∀ j q, j < 3 → P j = some q → w.heap.size + 4 < q ∧ q < wr.heap.size ∧ wr.cell? ⟨q, 2, none⟩ = some (.int .u64 (J j))
  pis : ∀ j, j < i → (P j).isSome = Bf j
  pno : ∀ j, i ≤ j → P j = none
  oth : ∃ cs : Array Value, wr.heap[w.heap.size + 1 + 1 + 1 + 1]? = some (.cells cs 48 (0, 0)) ∧ cs.size = 87 ∧ ∀ j, j < i → cs[j * 29 + 18]? = some (.int .u64 (O j)) ∧ cs[j * 29 + 27]? = some (vp (P j))

/-- The cells of an 'other' as the law lays it. -/
def oc (o : Int) (p : Option Addr) : Array Value := #[.slice none 0 0, .slice none 0 0, .map none, .int .u64 0, .int .u64 0, .int .u64 0, .int .u64 0, .int .u64 0, .int .u64 0, .bool false, .bool false, .int .i64 0, .slice none 0 0, .slice none 0 0, .int .u64 0, .int .u64 0, .slice none 0 0, .bool false, .int .u64 o, .int .i64 0, .int .u64 0, .int .i64 0, .int .u64 0, .int .u64 0, .int .u64 0, .bool false, .int .u64 0, .pointer p, .int .u64 0]

/-- UNDER A NAME: so the walk does not store it cell by cell. -/
theorem fold48 (o : Int) (p : Option Addr) : Value.agg #[.slice none 0 0, .slice none 0 0, .map none, .int .u64 0, .int .u64 0, .int .u64 0, .int .u64 0, .int .u64 0, .int .u64 0, .bool false, .bool false, .int .i64 0, .slice none 0 0, .slice none 0 0, .int .u64 0, .int .u64 0, .slice none 0 0, .bool false, .int .u64 o, .int .i64 0, .int .u64 0, .int .i64 0, .int .u64 0, .int .u64 0, .int .u64 0, .bool false, .int .u64 0, .pointer p, .int .u64 0] = .agg (oc o p) := rfl
theorem size_oc (o : Int) (p : Option Addr) : (oc o p).size = 29 := rfl

theorem oc_one (o : Int) (p : Option Addr) : ∀ v ∈ (oc o p).toList, v.oneCell' = true := by
  intro v hv
  simp only [oc, List.mem_cons, List.not_mem_nil, or_false] at hv
  rcases hv with rfl | rfl | rfl | rfl | rfl | rfl | rfl | rfl | rfl | rfl | rfl | rfl | rfl | rfl | rfl | rfl | rfl | rfl | rfl | rfl | rfl | rfl | rfl | rfl | rfl | rfl | rfl | rfl | rfl <;> rfl

/-- A whole 'other' stored. -/
theorem store_oc (w : World) (b off : Nat) (o : Int) (p : Option Addr) (ht : w.there b off 29) : (storeCells ⟨b, off, none⟩ (oc o p).toList).run Yba.prog w = .ok () (w.setCells b off (oc o p).toList) := by
  have := run_storeCells_cells (P := Yba.prog) b off (oc o p).toList 0 w (fun j hj => by simpa using (ht j (by simpa [oc] using hj)).1) (fun j hj => by simpa using (ht j (by simpa [oc] using hj)).2) (oc_one o p)
  simpa using this

/-- .. as the walk comes to it. -/
theorem store_ch (w : World) (b off : Nat) (o : Int) (p : Option Addr) (ht : w.there b off 29) :
    (storeCells ⟨b, off, none⟩ ((((((((((((oc 0 none).toList.set 18 (.int .u64 o)).set 19 (.int .i64 0)).set 20 (.int .u64 0)).set 21 (.int .i64 0)).set 22 (.int .u64 0)).set 23 (.int .u64 0)).set 24 (.int .u64 0)).set 25 (.bool false)).set 26 (.int .u64 0)).set 27 (.pointer p)).set 28 (.int .u64 0))).run Yba.prog w = .ok () (w.setCells b off (oc o p).toList) := store_oc w b off o p ht

theorem cells_of_blk {w : World} {N n : Nat} {t : TypeId} {cs : Array Value} (h : w.heap[N]? = some (.cells cs t (0, 0))) (hn : cs.size = n) (o : Nat) (ho : o < n) : (∃ v, w.cell? ⟨N, o, none⟩ = some v) ∧ w.frozen? ⟨N, o, none⟩ = false := by
  refine ⟨⟨cs[o], ?_⟩, Joins.unfrozen_of_block h o⟩
  rw [Joins.cell_of_block h]
  exact Array.getElem?_eq_getElem (by omega)

/-! ### What a run of stores into one block leaves -/
theorem setCells_frame (b : Nat) : ∀ (vs : List Value) (o : Nat) (w : World), (w.setCells b o vs).os = w.os ∧ (w.setCells b o vs).tape = w.tape ∧ (w.setCells b o vs).output = w.output ∧ (w.setCells b o vs).heap.size = w.heap.size ∧ ∀ k, k ≠ b → (w.setCells b o vs).heap[k]? = w.heap[k]?
  | [], _, _ => ⟨rfl, rfl, rfl, rfl, fun _ _ => rfl⟩
  | v :: vs, o, w => by
    obtain ⟨h1, h2, h3, h4, h5⟩ := setCells_frame b vs (o + 1) (w.setCell ⟨b, o, none⟩ v)
    rw [World.setCells]
    refine ⟨h1, h2, h3, h4.trans (by simp [World.setCell]), fun k hk => (h5 k hk).trans (Below.heap_setCell _ _ _ _ hk)⟩

theorem setCells_block (b : Nat) (t : TypeId) : ∀ (vs : List Value) (o : Nat) (w : World) (cs : Array Value), w.heap[b]? = some (.cells cs t (0, 0)) → o + vs.length ≤ cs.size →
    ∃ cs' : Array Value, (w.setCells b o vs).heap[b]? = some (.cells cs' t (0, 0)) ∧ cs'.size = cs.size ∧ (∀ j, j < vs.length → cs'[o + j]? = vs[j]?) ∧ ∀ q, (q < o ∨ o + vs.length ≤ q) → cs'[q]? = cs[q]?
  | [], _, _, cs, h, _ => ⟨cs, h, rfl, fun j hj => absurd hj (Nat.not_lt_zero _), fun _ _ => rfl⟩
  | v :: vs, o, w, cs, h, hl => by
    simp only [List.length_cons] at hl
    have h1 := Joins.block_setCell (i := o) h v
    obtain ⟨cs', e1, e2, e3, e4⟩ := setCells_block b t vs (o + 1) (w.setCell ⟨b, o, none⟩ v) (cs.setIfInBounds o v) h1 (by simp; omega)
    rw [World.setCells]
    refine ⟨cs', e1, e2.trans (by simp), fun j hj => ?_, fun q hq => ?_⟩
    · cases j with
      | zero =>
        rw [e4 (o + 0) (by omega)]
        simp [show o < cs.size by omega]
      | succ j =>
        have := e3 j (by simpa using hj)
        rw [show o + (j + 1) = o + 1 + j by omega, this]
        simp
    · simp only [List.length_cons] at hq
      rw [e4 q (by omega)]
      rw [Array.getElem?_setIfInBounds]
      rw [if_neg (by omega)]

theorem oc_18 (o : Int) (p : Option Addr) : (oc o p).toList[18]? = some (.int .u64 o) := rfl
theorem oc_27 (o : Int) (p : Option Addr) : (oc o p).toList[27]? = some (.pointer p) := rfl
theorem oc_len (o : Int) (p : Option Addr) : (oc o p).toList.length = 29 := rfl

/-- Round i where the other was not admitted by a change. -/
theorem BR.no {w wr : World} {O J : Nat → Int} {Bf : Nat → Bool} {P : Nat → Option Nat} {i : Nat} (h : BR w O J Bf P i wr) (hi : i < 3) (hb : Bf i = false) :
    BR w O J Bf P (i + 1) (wr.drew.setCells (w.heap.size + 1 + 1 + 1 + 1) (i * 29) (oc (O i) none).toList) := by
  obtain ⟨hbel, ob, jb, bb, arr, pok, pis, pno, cs, hcs, hcsz, hdone⟩ := h
  obtain ⟨f1, f2, f3, f4, f5⟩ := setCells_frame (w.heap.size + 1 + 1 + 1 + 1) (oc (O i) none).toList (i * 29) wr.drew
  obtain ⟨cs', e1, e2, e3, e4⟩ := setCells_block (w.heap.size + 1 + 1 + 1 + 1) 48 (oc (O i) none).toList (i * 29) wr.drew cs hcs (by rw [oc_len]; omega)
  rw [oc_len] at e3 e4
  generalize wr.drew.setCells (w.heap.size + 1 + 1 + 1 + 1) (i * 29) (oc (O i) none).toList = W at *
  have hc : ∀ b o, b ≠ w.heap.size + 1 + 1 + 1 + 1 → W.cell? ⟨b, o, none⟩ = wr.cell? ⟨b, o, none⟩ := fun b o hb => World.cell?_of_block (w := wr) (f5 b hb)
  refine ⟨hbel.trans ⟨f1, f2, f3, Nat.le_of_eq f4.symm, fun k hk => f5 k (by omega)⟩, fun j hj => (hc _ _ (by omega)).trans (ob j hj), fun j hj => (hc _ _ (by omega)).trans (jb j hj), fun j hj => (hc _ _ (by omega)).trans (bb j hj),
    (f5 _ (by omega)).trans arr, fun j q hj hq => ?_, fun j hj => ?_, fun j hj => pno j (by omega), cs', e1, e2.trans hcsz, fun j hj => ?_⟩
  · obtain ⟨g1, g2, g3⟩ := pok j q hj hq
    exact ⟨g1, by have h4 : W.heap.size = wr.heap.size := f4; omega, (hc _ _ (by omega)).trans g3⟩
  · rcases Nat.lt_succ_iff_lt_or_eq.1 hj with hj | rfl
    · exact pis j hj
    · rw [pno j (Nat.le_refl _), hb]; rfl
  · rcases Nat.lt_succ_iff_lt_or_eq.1 hj with hj | rfl
    · rw [e4 _ (by omega), e4 _ (by omega)]; exact hdone j hj
    · rw [e3 18 (by omega), e3 27 (by omega), oc_18, oc_27, pno j (Nat.le_refl _)]
      exact ⟨rfl, rfl⟩

/-- The view change that the law lays for an other that was admitted by one. -/
def vcCells (j : Int) : Array Value := #[.int .u64 0, .int .i64 0, .int .u64 j, .int .i64 0, .int .u64 0, .int .u64 0, .int .u64 0, .int .u64 0, .slice none 0 0, .slice none 0 0]

/-- Round i where it was. -/
theorem BR.yes {w wr : World} {O J : Nat → Int} {Bf : Nat → Bool} {P : Nat → Option Nat} {i : Nat} (h : BR w O J Bf P i wr) (hi : i < 3) (hb : Bf i = true) :
    BR w O J Bf (fun j => if j = i then some wr.heap.size else P j) (i + 1)
      (((wr.setCell ⟨w.heap.size + 1 + 1 + 1, i, none⟩ (.pointer (some ⟨wr.heap.size, 0, none⟩))).alloc (.cells (vcCells (J i)) 34)).drew.setCells (w.heap.size + 1 + 1 + 1 + 1) (i * 29) (oc (O i) (some ⟨wr.heap.size, 0, none⟩)).toList) := by
  obtain ⟨hbel, ob, jb, bb, arr, pok, pis, pno, cs, hcs, hcsz, hdone⟩ := h
  have hN : w.heap.size + 4 < wr.heap.size := (Array.getElem?_eq_some_iff.1 hcs).1
  have hs1 : (wr.setCell ⟨w.heap.size + 1 + 1 + 1, i, none⟩ (.pointer (some ⟨wr.heap.size, 0, none⟩))).heap.size = wr.heap.size := by simp [World.setCell]
  -- the world ahead of the long store
  have g5 : ∀ k, k ≠ w.heap.size + 1 + 1 + 1 → k < wr.heap.size → ((wr.setCell ⟨w.heap.size + 1 + 1 + 1, i, none⟩ (.pointer (some ⟨wr.heap.size, 0, none⟩))).alloc (.cells (vcCells (J i)) 34)).heap[k]? = wr.heap[k]? := fun k hk hl => by
    rw [Below.heap_alloc _ _ _ (by omega)]; exact Below.heap_setCell _ _ _ _ hk
  have garr : ((wr.setCell ⟨w.heap.size + 1 + 1 + 1, i, none⟩ (.pointer (some ⟨wr.heap.size, 0, none⟩))).alloc (.cells (vcCells (J i)) 34)).heap[w.heap.size + 1 + 1 + 1]? = some (.cells (#[vp (P 0), vp (P 1), vp (P 2)].setIfInBounds i (.pointer (some ⟨wr.heap.size, 0, none⟩))) 26 (0, 0)) := by
    rw [Below.heap_alloc _ _ _ (by omega)]; exact Joins.block_setCell arr _
  have gnew : ((wr.setCell ⟨w.heap.size + 1 + 1 + 1, i, none⟩ (.pointer (some ⟨wr.heap.size, 0, none⟩))).alloc (.cells (vcCells (J i)) 34)).heap[wr.heap.size]? = some (.cells (vcCells (J i)) 34) := by
    have := (MapKept.heap_alloc (wr.setCell ⟨w.heap.size + 1 + 1 + 1, i, none⟩ (.pointer (some ⟨wr.heap.size, 0, none⟩))) (.cells (vcCells (J i)) 34)).1
    rwa [hs1] at this
  have gsz : ((wr.setCell ⟨w.heap.size + 1 + 1 + 1, i, none⟩ (.pointer (some ⟨wr.heap.size, 0, none⟩))).alloc (.cells (vcCells (J i)) 34)).heap.size = wr.heap.size + 1 := by simp [hs1]
  have gos : ((wr.setCell ⟨w.heap.size + 1 + 1 + 1, i, none⟩ (.pointer (some ⟨wr.heap.size, 0, none⟩))).alloc (.cells (vcCells (J i)) 34)).os = wr.os := rfl
  have gta : ((wr.setCell ⟨w.heap.size + 1 + 1 + 1, i, none⟩ (.pointer (some ⟨wr.heap.size, 0, none⟩))).alloc (.cells (vcCells (J i)) 34)).tape = wr.tape := rfl
  have gou : ((wr.setCell ⟨w.heap.size + 1 + 1 + 1, i, none⟩ (.pointer (some ⟨wr.heap.size, 0, none⟩))).alloc (.cells (vcCells (J i)) 34)).output = wr.output := rfl
  generalize (wr.setCell ⟨w.heap.size + 1 + 1 + 1, i, none⟩ (.pointer (some ⟨wr.heap.size, 0, none⟩))).alloc (.cells (vcCells (J i)) 34) = V at *
  obtain ⟨f1, f2, f3, f4, f5⟩ := setCells_frame (w.heap.size + 1 + 1 + 1 + 1) (oc (O i) (some ⟨wr.heap.size, 0, none⟩)).toList (i * 29) V.drew
  obtain ⟨cs', e1, e2, e3, e4⟩ := setCells_block (w.heap.size + 1 + 1 + 1 + 1) 48 (oc (O i) (some ⟨wr.heap.size, 0, none⟩)).toList (i * 29) V.drew cs ((g5 _ (by omega) (by omega)).trans hcs) (by rw [oc_len]; omega)
  rw [oc_len] at e3 e4
  generalize V.drew.setCells (w.heap.size + 1 + 1 + 1 + 1) (i * 29) (oc (O i) (some ⟨wr.heap.size, 0, none⟩)).toList = W at *
  have f4' : W.heap.size = V.heap.size := f4
  have f5' : ∀ k, k ≠ w.heap.size + 1 + 1 + 1 + 1 → W.heap[k]? = V.heap[k]? := f5
  have hh : ∀ k, k ≠ w.heap.size + 1 + 1 + 1 + 1 → k ≠ w.heap.size + 1 + 1 + 1 → k < wr.heap.size → W.heap[k]? = wr.heap[k]? := fun k h1 h2 h3 => (f5' k h1).trans (g5 k h2 h3)
  have hc : ∀ b o, b ≠ w.heap.size + 1 + 1 + 1 + 1 → b ≠ w.heap.size + 1 + 1 + 1 → b < wr.heap.size → W.cell? ⟨b, o, none⟩ = wr.cell? ⟨b, o, none⟩ := fun b o h1 h2 h3 => World.cell?_of_block (w := wr) (hh b h1 h2 h3)
  refine ⟨hbel.trans ⟨f1.trans gos, f2.trans gta, f3.trans gou, by omega, fun k hk => hh k (by omega) (by omega) (by omega)⟩, fun j hj => (hc _ _ (by omega) (by omega) (by omega)).trans (ob j hj), fun j hj => (hc _ _ (by omega) (by omega) (by omega)).trans (jb j hj), fun j hj => (hc _ _ (by omega) (by omega) (by omega)).trans (bb j hj),
    ?_, fun j q hj hq => ?_, fun j hj => ?_, fun j hj => ?_, cs', e1, e2.trans hcsz, fun j hj => ?_⟩
  · rw [f5' _ (by omega), garr]
    rcases (show i = 0 ∨ i = 1 ∨ i = 2 by omega) with rfl | rfl | rfl <;> simp [vp, ap]
  · by_cases e : j = i
    · subst e
      simp only [if_true] at hq
      cases hq
      refine ⟨by omega, by omega, ?_⟩
      have : W.heap[wr.heap.size]? = some (.cells (vcCells (J j)) 34) := (f5' _ (by omega)).trans gnew
      rw [Joins.cell_of_block this]; rfl
    · simp only [if_neg e] at hq
      obtain ⟨g1, g2, g3⟩ := pok j q hj hq
      exact ⟨g1, by omega, (hc _ _ (by omega) (by omega) (by omega)).trans g3⟩
  · rcases Nat.lt_succ_iff_lt_or_eq.1 hj with hj | rfl
    · rw [if_neg (by omega)]; exact pis j hj
    · rw [if_pos rfl, hb]; rfl
  · rw [if_neg (by omega)]; exact pno j (by omega)
  · rcases Nat.lt_succ_iff_lt_or_eq.1 hj with hj | rfl
    · rw [e4 _ (by omega), e4 _ (by omega), if_neg (by omega)]; exact hdone j hj
    · rw [e3 18 (by omega), e3 27 (by omega), oc_18, oc_27, if_pos rfl]
      exact ⟨rfl, rfl⟩

theorem BR.later {w wr wx : World} {O J : Nat → Int} {Bf : Nat → Bool} {P : Nat → Option Nat} {i : Nat} (h : BR w O J Bf P i wr) (hb : Below wr.heap.size wr wx) : BR w O J Bf P i wx := by
  obtain ⟨hbel, ob, jb, bb, arr, pok, pis, pno, cs, hcs, hcsz, hdone⟩ := h
  have hN : w.heap.size + 4 < wr.heap.size := (Array.getElem?_eq_some_iff.1 hcs).1
  obtain ⟨hc, _⟩ := bcell hb
  have hs := hb.size
  refine ⟨hbel.trans (hb.mono (by omega)), fun j hj => (hc _ _ (by omega)).trans (ob j hj), fun j hj => (hc _ _ (by omega)).trans (jb j hj), fun j hj => (hc _ _ (by omega)).trans (bb j hj), (hb.block _ (by omega)).trans arr, fun j q hj hq => ?_, pis, pno, cs, (hb.block _ (by omega)).trans hcs, hcsz, hdone⟩
  obtain ⟨g1, g2, g3⟩ := pok j q hj hq
  exact ⟨g1, by omega, (hc _ _ g2).trans g3⟩

/-- What the boxed arguments, the array and the slice of others give the walk at index k, when the loop is through. -/
structure At (w : World) (O J : Nat → Int) (Bf : Nat → Bool) (P : Nat → Option Nat) (k : Nat) (wx : World) : Prop where
  size : w.heap.size + 4 < wx.heap.size
  co : wx.cell? ⟨w.heap.size, k, none⟩ = some (.int .u64 (O k))
  cj : wx.cell? ⟨w.heap.size + 1, k, none⟩ = some (.int .u64 (J k))
  cb : wx.cell? ⟨w.heap.size + 1 + 1, k, none⟩ = some (.bool (Bf k))
  ca : wx.cell? ⟨w.heap.size + 1 + 1 + 1, k, none⟩ = some (vp (P k))
  c18 : wx.cell? ⟨w.heap.size + 1 + 1 + 1 + 1, k * 29 + 18, none⟩ = some (.int .u64 (O k))
  c27 : wx.cell? ⟨w.heap.size + 1 + 1 + 1 + 1, k * 29 + 27, none⟩ = some (vp (P k))
  ct : ∀ q, P k = some q → q < wx.heap.size ∧ wx.cell? ⟨q, 2, none⟩ = some (.int .u64 (J k))
  is : (P k).isSome = Bf k

theorem BR.at {w wx : World} {O J : Nat → Int} {Bf : Nat → Bool} {P : Nat → Option Nat} (h : BR w O J Bf P 3 wx) (k : Nat) (hk : k < 3) : At w O J Bf P k wx := by
  obtain ⟨hbel, ob, jb, bb, arr, pok, pis, pno, cs, hcs, hcsz, hdone⟩ := h
  refine ⟨(Array.getElem?_eq_some_iff.1 hcs).1, ob k hk, jb k hk, bb k hk, ?_, ?_, ?_, fun q hq => (pok k q hk hq).2, pis k hk⟩
  · rw [Joins.cell_of_block arr]
    rcases (show k = 0 ∨ k = 1 ∨ k = 2 by omega) with rfl | rfl | rfl <;> rfl
  · rw [Joins.cell_of_block hcs]; exact (hdone k hk).1
  · rw [Joins.cell_of_block hcs]; exact (hdone k hk).2

theorem row_cell {w : World} {base n c : Nat} {a : Option Addr} {xs : List Value} (h : w.ownsRow base 25 1 (.slice a n c) n xs) (j : Nat) (u : Value) (hj : xs[j]? = some u) : ∃ g, a = some ⟨g, 0, none⟩ ∧ g < w.heap.size ∧ w.cell? ⟨g, j, none⟩ = some u := by
  have hlt := (List.getElem?_eq_some_iff.1 hj).1
  have hl := h.1
  rcases h.2 with ⟨e1, e2⟩ | ⟨g, cp, cur, e1, _, hg, _⟩
  · subst e2; omega
  · injection e1 with h1 h2 h3
    subst h1 h3
    refine ⟨g, rfl, (Array.getElem?_eq_some_iff.1 hg).1, ?_⟩
    rw [h.cellAt j (by omega), hj]

theorem pointee25 : Yba.prog.underlying 25 = some (.pointer (Yba.prog.pointee 25)) := by
  have e : Yba.prog.pointee 25 = 34 := by simp [Program.pointee, Yba.underlying25]
  rw [e]; exact Yba.underlying25

theorem neq_ap (x : Option Nat) (w : World) : (binOp .neq 25 (.pointer (ap x)) (.pointer (ap x))).run Yba.prog w = .ok (.bool false) w := by
  cases x with
  | none =>
    exact run_neq_pointer_nil (P := Yba.prog) w 25 none pointee25
  | some q =>
    have h34 : ∃ j, Yba.prog.info? 34 = some j := by
      have h : (Yba.prog.info? 34).isSome = true := by kernel_rfl
      exact Option.isSome_iff_exists.1 h
    obtain ⟨j, hj⟩ := h34
    exact Lib.run_neq_ptr_same w ⟨q, 0, none⟩ Yba.underlying25 hj

theorem neq_ap_nil (x : Option Nat) (w : World) : (binOp .neq 25 (.pointer (ap x)) (.pointer none)).run Yba.prog w = .ok (.bool x.isSome) w := by
  have := run_neq_pointer_nil (P := Yba.prog) w 25 (ap x) pointee25
  rw [this]
  cases x <;> rfl

end Go.Proofs.Ybulkceou
