/-
  Small laws of no function (seat b4030aZD).
-/
import Derived.Test.YbulkcelaGreatDoorRows
import Derived.WalkKit
import Derived.Laws.Rows
import Derived.WalkSpells
import Derived.WalkLawsBesides
import Derived.Outline
import Derived.Deep.QuietTactic
import Derived.BigQuiet
import Derived.RowKit3
import Derived.Laws.BitsAllLaws
import Derived.Laws.Pointers
import Derived.Handy
import Derived.Lib.SmallJoins
import Derived.Deep.MidRow
import Derived.BigRegion
import Derived.Deep.LoopGhost
import Derived.Below
import Derived.Sort.Grow
import Derived.Shelf.SlSortCmp.QuietGrown
import Derived.Deep.RegionHeld
import Derived.Deep.RegionHeldLaw
import Derived.Deep.AppendLies
import Derived.Maps.AppendAt
namespace Go.Proofs.YbulkcelaGreatDoor
open Go.RowKit Go.Sort

theorem alloc_at (w : World) (o : Obj) (k : Nat) : (w.alloc o).heap[k]? = if k = w.heap.size then some o else w.heap[k]? := by
  by_cases h : k = w.heap.size
  · subst h; rw [if_pos rfl]; exact (MapKept.heap_alloc _ _).1
  · rw [if_neg h]
    by_cases h2 : k < w.heap.size
    · exact Below.heap_alloc _ _ _ h2
    · rw [Array.getElem?_eq_none (by simp; omega), Array.getElem?_eq_none (by omega)]

theorem below_drewN (B : Nat) (w : World) (n : Nat) : Below B w (w.drewN n) := ⟨rfl, rfl, rfl, Nat.le_refl _, fun _ _ => rfl⟩

def Veil (p : Prop) : Prop := p
theorem Veil.off {p : Prop} (h : Veil p) : p := h

/-- Only how a region ends in order is asked of it. -/
theorem wp_normal {P : Program} {c : Code} {Q : Exit → Act → World → Prop} {a : Act} {w : World} (h : c.wp P (fun e a w => match e with | .normal => Q .normal a w | _ => False) a w) : c.wp P Q a w :=
  wp_mono h (fun e a w q => by cases e <;> first | exact q | exact q.elim)

theorem row_below {B : Nat} {w w' : World} {e size n : Nat} {v : Value} {xs : List Value} (h : w.ownsRow B e size v n xs) (hb : Below w.heap.size w w') : w'.ownsRow B e size v n xs := by
  obtain ⟨h0, h1 | ⟨g, cap, cur, hv, hB, hh, rest⟩⟩ := h
  · exact ⟨h0, .inl h1⟩
  · exact ⟨h0, .inr ⟨g, cap, cur, hv, hB, (hb.block g (Array.getElem?_eq_some_iff.1 hh).1).trans hh, rest⟩⟩

def headR : Code → Option Nat
  | .region n _ _ => some n
  | .seq a _ => headR a
  | .block _ c => headR c
  | .scope c => headR c
  | _ => none
/-- The rest of a chain of statements, from the statement whose first region is the n-th. -/
def fromR (n : Nat) : Code → Option Code
  | .seq a b => match headR a == some n with
    | true => some (.seq a b)
    | false => fromR n b
  | .block _ c => fromR n c
  | .scope c => fromR n c
  | _ => none
theorem own_form {w : World} {B e size n : Nat} {v : Value} {xs : List Value} (h : w.ownsRow B e size v n xs) : ∃ p c, v = .slice p n c := by
  rcases h.2 with ⟨e, e2⟩ | ⟨g, cp, cur, e, _⟩
  · exact ⟨none, 0, by rw [e, e2]⟩
  · exact ⟨_, _, e⟩

/-- What a call leaves that only lays blocks of its own. -/
def Lays (w w' : World) : Prop := ∃ q os, w' = grow (w.drewN q) os
theorem Lays.below {w w' : World} (h : Lays w w') : Below w.heap.size w w' := by
  obtain ⟨q, os, rfl⟩ := h
  exact ⟨rfl, rfl, rfl, by simp [grow], fun k hk => heap_grow_old (w.drewN q) os hk⟩
theorem Lays.refl (w : World) : Lays w w := ⟨0, #[], (grow_empty w).symm⟩
theorem Lays.trans {w w1 w2 : World} (h1 : Lays w w1) (h2 : Lays w1 w2) : Lays w w2 := by
  obtain ⟨q, os, rfl⟩ := h1
  obtain ⟨q', os', rfl⟩ := h2
  exact ⟨q + q', os ++ os', by show grow (grow ((w.drewN q).drewN q') os) os' = _; rw [grow_grow, World.drewN_drewN]⟩
theorem Lays.alloc {w w' : World} (h : Lays w w') (o : Obj) : Lays w (w'.alloc o) := h.trans ⟨0, #[o], alloc_eq_grow w' o⟩
theorem Lays.drew {w w' : World} (h : Lays w w') : Lays w w'.drew := h.trans ⟨1, #[], (grow_empty _).symm⟩
theorem Lays.setCell {w w' : World} (h : Lays w w') {b o : Nat} (hb : w.heap.size ≤ b) (v : Value) : Lays w (w'.setCell ⟨b, o, none⟩ v) := by
  obtain ⟨q, os, rfl⟩ := h
  exact ⟨q, _, by rw [setCell_eq]; exact mapBlock_grow_new (w.drewN q) os b _ hb⟩
theorem lays_two (w : World) (o1 o2 : Obj) : Lays w ((w.alloc o1).alloc o2) := ((Lays.refl w).alloc o1).alloc o2

end Go.Proofs.YbulkcelaGreatDoor
