/-
  LawS4037CInstall: the stand-in rule's 'forget' by its contract (seat b4037aD).
-/
import Derived.Test.YbulkceouDoorIter
import Derived.Maps.AppendAt
namespace Go.Proofs.YbulkceouDoor
open Go.RowKit Go.Shelf

theorem info3 : (Ybad.prog.info? 3).map (fun i => (i.zero, i.size, i.bytes)) = some (some (.int .i64 0), 1, 8) := by kernel_rfl

/-- What a list's append leaves: all below B but the block rb. -/
structure Kept (rb B : Nat) (w w' : World) : Prop where
  size : w.heap.size ≤ w'.heap.size
  same : ∀ j, j ≠ rb → j < B → w'.heap[j]? = w.heap[j]?
  low : Below rb w w'
  others : KeepsOthers w w'

theorem Kept.refl (rb B : Nat) (w : World) : Kept rb B w w := ⟨Nat.le_refl _, fun _ _ _ => rfl, Below.refl _ _, KeepsOthers.refl _⟩
theorem Kept.trans {rb B : Nat} {w w' w2 : World} (h : Kept rb B w w') (k : Kept rb B w' w2) : Kept rb B w w2 := ⟨Nat.le_trans h.size k.size, fun j a b => (k.same j a b).trans (h.same j a b), h.low.trans k.low, h.others.trans k.others⟩

/-- The rule's own list. -/
def Listed (rb B : Nat) (xs : List Value) (w : World) : Prop := ∃ v, w.heap[rb]? = some (.cells #[v, .int .i64 0] 36 (0, 0)) ∧ w.ownsRow B 3 1 v xs.length xs

set_option maxRecDepth 100000 in
set_option maxHeartbeats 1000000 in
theorem forget (rb B : Nat) (k : Int) (xs : List Value) (w : World) (hB : rb < B) (hBw : B ≤ w.heap.size) (hl : xs.length < 64) (h : Listed rb B xs w) :
    Calls Ybad.prog 39 #[.pointer (some ⟨rb, 0, none⟩), .int .i64 k] w fun e w' => (∃ v, e = .returned v) ∧ Listed rb B (xs ++ [.int .i64 k]) w' ∧ Kept rb B w w' := by
  obtain ⟨v, hrb, hown⟩ := h
  obtain ⟨i0, hi, hz0, hz1, hz2⟩ := info_parts info3
  have c0 := Joins.cell_of_block hrb 0
  have f0 := Joins.unfrozen_of_block hrb 0
  simp at c0
  go_enter Ybad.func39, Ybad.ntmps39
  go_wp2_with (at_builtin; refine wpList_append_own _ rfl (.tmp 8) (.tmp 10) 34 rfl B 3 i0 (.int .i64 0) 1 8 Ybad.underlying34 hi hz0 hz1 hz2 rfl (by decide) _ _ _ rfl (hown.alloc _) ⟨w.heap.size, 0, none⟩ 1 1 [.int .i64 k] rfl rfl ?c1 ?c2 ?c3 ?c4 ?c5 ?_)
  case c1 => exact cell_one_new _ _ _
  case c2 => intro u hu; simp at hu; subst hu; rfl
  case c3 => simp [maxLen]; omega
  case c4 => omega
  case c5 => simp; omega
  intro v' w1 hown1 hgrow _
  have hob : ∀ j, Value.ownBlock v = some j → B ≤ j := fun j hj => by
    rcases hown.2 with ⟨e, _⟩ | ⟨g, cp, cur, e, hg, _⟩
    · rw [e] at hj; simp [Value.ownBlock] at hj
    · rw [e] at hj; simp [Value.ownBlock] at hj; omega
  have hkeep : ∀ j, j < B → w1.heap[j]? = w.heap[j]? := fun j hj =>
    (hgrow.block j (by simp; omega) (fun e => by have := hob j e.symm; omega)).trans (Below.heap_alloc _ _ _ (by omega))
  have hsz1 : w.heap.size ≤ w1.heap.size := by have := hgrow.size; simp at this; omega
  have hrb1 := (hkeep rb hB).trans hrb
  have c1 := Joins.cell_of_block hrb1 0
  have f1 := Joins.unfrozen_of_block hrb1 0
  simp at c1
  have hb1 : Below rb w w1 := ((Below.refl rb w).alloc (by omega) _).grown hgrow (by simp; omega) (fun j e => by have := hob j e; omega)
  have ho1 : KeepsOthers w w1 := (KeepsOthers.alloc _ _).trans (KeepsOthers.of_grownBy hgrow (fun j o e ho => by
    rcases hown.2 with ⟨e1, _⟩ | ⟨g, cp, cur, e1, hg, hcur, _⟩
    · rw [e1] at e; simp [Value.ownBlock] at e
    · rw [e1] at e
      simp [Value.ownBlock] at e
      subst e
      rw [Below.heap_alloc _ _ _ (Array.getElem?_eq_some_iff.1 hcur).1, hcur] at ho
      cases ho; rfl))
  obtain ⟨g, cp1, hv⟩ := Joins.ownsRow_form hown1 (by omega)
  have R : Aside (w1.ownsRow B 3 1 v' (xs.length + 1) (xs ++ [.int .i64 k]) ∧ (∀ j, j < B → w1.heap[j]? = w.heap[j]?) ∧ w1.heap[rb]? = some (.cells #[v, .int .i64 0] 36 (0, 0)) ∧ Below rb w w1 ∧ KeepsOthers w w1) := ⟨hown1, hkeep, hrb1, hb1, ho1⟩
  clear hown1 hgrow hkeep hrb1 hb1 ho1 hob hown
  rw [hv]
  rw [hv] at R
  clear hv
  go_wp2
  go_end0
  obtain ⟨r1, r2, r3, r4, r5⟩ := R.out
  have hs2 : (w1.setCell ⟨rb, 0, none⟩ (.slice (some ⟨g, 0, none⟩) (xs.length + 1) cp1)).heap.size = w1.heap.size := by simp [World.setCell]
  have hgB : B ≤ g := by
    rcases r1.2 with ⟨e, _⟩ | ⟨g', cp, cur, e, hg, _⟩
    · cases e
    · cases e; exact hg
  refine ⟨⟨_, rfl⟩, ⟨.slice (some ⟨g, 0, none⟩) (xs.length + 1) cp1, ?_, ?_⟩, ⟨by rw [hs2]; exact hsz1, fun j h1 h2 => (Below.heap_setCell _ _ _ _ h1).trans (r2 j h2), r4.setCell (p := ⟨rb, 0, none⟩) (Nat.le_refl _) _, r5.trans (KeepsOthers.setCell _ _ _)⟩⟩
  · exact (Joins.block_setCell (i := 0) r3 _).trans (by simp)
  · rw [List.length_append]
    rcases r1 with ⟨e0, ⟨e, _⟩ | ⟨g', cp, cur, e, hg, hcur, rest⟩⟩
    · cases e
    · cases e
      exact ⟨e0, .inr ⟨g, cp1, cur, rfl, hg, (Below.heap_setCell _ _ _ _ (by show g ≠ rb; omega)).trans hcur, rest⟩⟩
end Go.Proofs.YbulkceouDoor
