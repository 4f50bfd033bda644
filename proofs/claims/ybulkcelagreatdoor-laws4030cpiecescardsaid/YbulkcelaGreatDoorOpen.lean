/-
  FROM THE ROW's READING OF THE ARGUMENTS TO WHAT THE WALK IS TOLD OF THEM (seat b4030aZD).
-/
import Derived.Test.YbulkcelaGreatDoorLaw
import Derived.ProofKit
import Derived.ChangeOld
import Derived.OpenShut
import Derived.Deep.Slices
import Derived.Deep.Strs
namespace Go.Proofs.YbulkcelaGreatDoor
open Go.ChangeShapes Go.WideShapes Go.ChangeAt Go.RowKit

section
variable {H : Type} {enc : TypeId × Value → H} {w : World} {spare : Nat → Bool} {held : Bool}

theorem add_none (b o j : Nat) : Addr.add ⟨b, o, none⟩ j = ⟨b, o + j, none⟩ := by
  unfold Addr.add
  split
  · rename_i h; subst h; rfl
  · rfl

theorem list2 {α : Type} {l : List α} (h : l.length = 2) : ∃ a b, l = [a, b] := by
  match l, h with
  | [a, b], _ => exact ⟨a, b, rfl⟩
theorem list3 {α : Type} {l : List α} (h : l.length = 3) : ∃ a b c, l = [a, b, c] := by
  match l, h with
  | [a, b, c], _ => exact ⟨a, b, c, rfl⟩

theorem elemR_of {b off i n : Nat} {cs : List Value} {x : DataW H × List MemPlace} (hc : w.cells? 0 ⟨b, off + i * 2, none⟩ 2 = some cs) (h : DataW.trod enc Ybaz.prog w 0 spare held n 47 cs = some x) :
    ∃ fm : Nat × Int, b < w.heap.size ∧ w.cell? ⟨b, off + i * 2, none⟩ = some (.int .u8 (fm.1 : Int)) ∧ w.cell? ⟨b, off + i * 2 + 1, none⟩ = some (.int .i32 fm.2) ∧ fm.1 ≤ 255 ∧ -2147483648 ≤ fm.2 ∧ fm.2 ≤ 2147483647 := by
  obtain ⟨_, hl, hcell⟩ := World.cells?_some hc
  obtain ⟨c0, c1, rfl⟩ := list2 hl
  obtain ⟨y0, y1, m, _, _, t0, t1⟩ := trod_struct2 Ybaz.underlying47 h
  have k0 := hcell 0 (by omega)
  have k1 := hcell 1 (by omega)
  rw [add_none] at k0 k1
  have e21 : Ybaz.prog.cellsOf 21 = 1 := by kernel_rfl
  have e5 : Ybaz.prog.cellsOf 5 = 1 := by kernel_rfl
  simp [e21, e5] at t0 t1 k0 k1
  obtain ⟨s, es, _, hs⟩ := DataW.trod_int Ybaz.underlying5 t0
  obtain ⟨e, ee, _, he⟩ := DataW.trod_int Ybaz.underlying21 t1
  simp at es ee
  subst es ee
  obtain ⟨s0, s1⟩ := bounds_u8 hs
  obtain ⟨e0, e1⟩ := bounds_i32 he
  exact ⟨(s.toNat, e), cell_lt' k0, by rw [k0]; simp [Int.toNat_of_nonneg s0], k1, by show s.toNat ≤ 255; omega, e0, e1⟩

theorem argR_of {fuel len cap : Nat} {a : Option Addr} {x : DataW H × List MemPlace} (h : DataW.trod enc Ybaz.prog w 0 spare held fuel 22 [.slice a len cap] = some x) :
    ∃ (M : Nat → Nat) (C : Nat → Int), ArgR w w.heap.size a len M C ∧ (len : Int) ≤ 9223372036854775807 := by
  rcases Deep.open_slice Ybaz.underlying22 h with ⟨hcs, _⟩ | ⟨a', len', cap', m, n, D, Pl, hcs, _, hl, hm, hmm, _, hx⟩
  · simp at hcs
    obtain ⟨rfl, rfl, rfl⟩ := hcs
    exact ⟨fun _ => 0, fun _ => 0, fun i hi => absurd hi (Nat.not_lt_zero _), by decide⟩
  · simp at hcs
    obtain ⟨rfl, rfl, rfl⟩ := hcs
    have e47 : Ybaz.prog.cellsOf 47 = 2 := by kernel_rfl
    rw [e47] at hx
    have key : ∀ i, i < len → ∃ fm : Nat × Int, ∃ b off, a' = ⟨b, off, none⟩ ∧ b < w.heap.size ∧ w.cell? ⟨b, off + i * 2, none⟩ = some (.int .u8 (fm.1 : Int)) ∧ w.cell? ⟨b, off + i * 2 + 1, none⟩ = some (.int .i32 fm.2) ∧ fm.1 ≤ 255 ∧ -2147483648 ≤ fm.2 ∧ fm.2 ≤ 2147483647 := fun i hi => by
      obtain ⟨cs0, h0, _⟩ := hx 0 (by rw [hmm]; split <;> omega)
      obtain ⟨cs, h1, h2⟩ := hx i (by rw [hmm]; split <;> omega)
      have g0 := (World.cells?_some h0).2.2 0 (by omega)
      have hl0 := (World.cells?_some h0).2.1
      obtain ⟨b, off, sp⟩ := a'
      have hsp : sp = none := by
        rw [List.getElem?_eq_getElem (by omega)] at g0
        have := World.cell?_spot g0
        simpa [Addr.add] using this
      subst hsp
      rw [add_none] at h1
      obtain ⟨fm, he⟩ := elemR_of h1 h2
      exact ⟨fm, b, off, rfl, he⟩
    obtain ⟨f, hf⟩ := Deep.choose_lt key
    refine ⟨fun i => (f i).1, fun i => (f i).2, fun i hi => ?_, by unfold maxLen at hm; omega⟩
    obtain ⟨b, off, rfl, he⟩ := hf i hi
    exact ⟨b, off, rfl, he⟩

theorem elemC_of {b off i n : Nat} {cs : List Value} {x : DataW H × List MemPlace} (hc : w.cells? 0 ⟨b, off + i * 3, none⟩ 3 = some cs) (h : DataW.trod enc Ybaz.prog w 0 spare held n 35 cs = some x) :
    ∃ fm : Nat × Int × Int, b < w.heap.size ∧ w.cell? ⟨b, off + i * 3, none⟩ = some (.int .u8 (fm.1 : Int)) ∧ w.cell? ⟨b, off + i * 3 + 1, none⟩ = some (.int .i16 fm.2.1) ∧ w.cell? ⟨b, off + i * 3 + 2, none⟩ = some (.int .i16 fm.2.2) ∧ fm.1 ≤ 255 ∧ (-32768 ≤ fm.2.1 ∧ fm.2.1 ≤ 32767) ∧ (-32768 ≤ fm.2.2 ∧ fm.2.2 ≤ 32767) := by
  obtain ⟨_, hl, hcell⟩ := World.cells?_some hc
  obtain ⟨c0, c1, c2, rfl⟩ := list3 hl
  obtain ⟨y0, y1, y2, m, _, _, t0, t1, t2⟩ := Deep.trod_struct3 Ybaz.underlying35 h
  have k0 := hcell 0 (by omega)
  have k1 := hcell 1 (by omega)
  have k2 := hcell 2 (by omega)
  rw [add_none] at k0 k1 k2
  have e24 : Ybaz.prog.cellsOf 24 = 1 := by kernel_rfl
  have e5 : Ybaz.prog.cellsOf 5 = 1 := by kernel_rfl
  simp [e24, e5] at t0 t1 t2 k0 k1 k2
  obtain ⟨s, es, _, hs⟩ := DataW.trod_int Ybaz.underlying5 t0
  obtain ⟨e, ee, _, he⟩ := DataW.trod_int Ybaz.underlying24 t1
  obtain ⟨g, eg, _, hg⟩ := DataW.trod_int Ybaz.underlying24 t2
  simp at es ee eg
  subst es ee eg
  obtain ⟨s0, s1⟩ := bounds_u8 hs
  have e0 := bounds_i16 he
  have g0 := bounds_i16 hg
  exact ⟨(s.toNat, e, g), cell_lt' k0, by rw [k0]; simp [Int.toNat_of_nonneg s0], k1, k2, by show s.toNat ≤ 255; omega, e0, g0⟩

theorem argC_of {fuel len cap : Nat} {a : Option Addr} {x : DataW H × List MemPlace} (h : DataW.trod enc Ybaz.prog w 0 spare held fuel 23 [.slice a len cap] = some x) :
    ∃ (M : Nat → Nat) (s e : Nat → Int), ArgC w w.heap.size a len M s e ∧ (len : Int) ≤ 9223372036854775807 := by
  rcases Deep.open_slice Ybaz.underlying23 h with ⟨hcs, _⟩ | ⟨a', len', cap', m, n, D, Pl, hcs, _, hl, hm, hmm, _, hx⟩
  · simp at hcs
    obtain ⟨rfl, rfl, rfl⟩ := hcs
    exact ⟨fun _ => 0, fun _ => 0, fun _ => 0, fun i hi => absurd hi (Nat.not_lt_zero _), by decide⟩
  · simp at hcs
    obtain ⟨rfl, rfl, rfl⟩ := hcs
    have e35 : Ybaz.prog.cellsOf 35 = 3 := by kernel_rfl
    rw [e35] at hx
    have key : ∀ i, i < len → ∃ fm : Nat × Int × Int, ∃ b off, a' = ⟨b, off, none⟩ ∧ b < w.heap.size ∧ w.cell? ⟨b, off + i * 3, none⟩ = some (.int .u8 (fm.1 : Int)) ∧ w.cell? ⟨b, off + i * 3 + 1, none⟩ = some (.int .i16 fm.2.1) ∧ w.cell? ⟨b, off + i * 3 + 2, none⟩ = some (.int .i16 fm.2.2) ∧ fm.1 ≤ 255 ∧ (-32768 ≤ fm.2.1 ∧ fm.2.1 ≤ 32767) ∧ (-32768 ≤ fm.2.2 ∧ fm.2.2 ≤ 32767) := fun i hi => by
      obtain ⟨cs0, h0, _⟩ := hx 0 (by rw [hmm]; split <;> omega)
      obtain ⟨cs, h1, h2⟩ := hx i (by rw [hmm]; split <;> omega)
      have g0 := (World.cells?_some h0).2.2 0 (by omega)
      have hl0 := (World.cells?_some h0).2.1
      obtain ⟨b, off, sp⟩ := a'
      have hsp : sp = none := by
        rw [List.getElem?_eq_getElem (by omega)] at g0
        have := World.cell?_spot g0
        simpa [Addr.add] using this
      subst hsp
      rw [add_none] at h1
      obtain ⟨fm, he⟩ := elemC_of h1 h2
      exact ⟨fm, b, off, rfl, he⟩
    obtain ⟨f, hf⟩ := Deep.choose_lt key
    refine ⟨fun i => (f i).1, fun i => (f i).2.1, fun i => (f i).2.2, fun i hi => ?_, by unfold maxLen at hm; omega⟩
    obtain ⟨b, off, rfl, he⟩ := hf i hi
    exact ⟨b, off, rfl, he⟩
end
end Go.Proofs.YbulkcelaGreatDoor
