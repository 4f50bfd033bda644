/-
  FROM THE ROW's READING OF THE ARGUMENTS TO WHAT THE WALK IS TOLD OF THEM (seat b4032aZ).
-/
import Derived.Test.YbulkcemcGreatLaw
import Derived.ProofKit
import Derived.ChangeOld
import Derived.OpenShut
namespace Go.Proofs.YbulkcemcGreat
open Go.ChangeShapes Go.WideShapes Go.ChangeAt Go.RowKit

section
variable {H : Type} {enc : TypeId × Value → H} {w : World} {spare : Nat → Bool} {held : Bool}

theorem cell_lt {w : World} {a : Addr} {v : Value} (h : w.cell? a = some v) : a.block < w.heap.size := by
  unfold World.cell? at h
  by_cases hb : a.block < w.heap.size
  · exact hb
  · have : w.heap[a.block]? = none := Array.getElem?_eq_none (by omega)
    simp [this] at h

theorem add_none (b o j : Nat) : Addr.add ⟨b, o, none⟩ j = ⟨b, o + j, none⟩ := by
  unfold Addr.add
  split
  · rename_i h; subst h; rfl
  · rfl

theorem argB_of {fuel len cap : Nat} {a : Option Addr} {x : DataW H × List MemPlace} (h : DataW.trod enc Ybaz.prog w 0 spare held fuel 23 [.slice a len cap] = some x) :
    ∃ G : Nat → Nat, ArgB w w.heap.size a len G ∧ (len : Int) ≤ 9223372036854775807 := by
  rcases Deep.open_slice1 Ybaz.underlying23 (by kernel_rfl) h with ⟨hcs, _⟩ | ⟨a', len', cap', m, n, V, D, Pl, hcs, _, hl, hm, hmm, _, hx⟩
  · simp at hcs
    obtain ⟨rfl, rfl, rfl⟩ := hcs
    exact ⟨fun _ => 0, fun i hi => absurd hi (Nat.not_lt_zero _), by decide⟩
  · simp at hcs
    obtain ⟨rfl, rfl, rfl⟩ := hcs
    have key : ∀ i, i < len → ∃ g : Nat, ∃ b off, a' = ⟨b, off, none⟩ ∧ b < w.heap.size ∧ w.cell? ⟨b, off + i, none⟩ = some (.int .u8 (g : Int)) ∧ g ≤ 255 := fun i hi => by
      obtain ⟨g1, _⟩ := hx 0 (by rw [hmm]; split <;> omega)
      obtain ⟨h1, h2⟩ := hx i (by rw [hmm]; split <;> omega)
      have hlt := cell_lt g1
      have hsp := World.cell?_spot g1
      obtain ⟨b, o, sp⟩ := a'
      simp only [Addr.add, if_true] at hlt hsp
      subst hsp
      rw [add_none] at h1
      obtain ⟨z, e, _, hz⟩ := DataW.trod_int Ybaz.underlying5 h2
      have hbd := bounds_u8 hz
      simp at e
      refine ⟨z.toNat, b, o, rfl, hlt, ?_, by omega⟩
      rw [h1, e, Int.toNat_of_nonneg hbd.1]
    obtain ⟨f, hf⟩ := Deep.choose_lt key
    refine ⟨f, fun i hi => ?_, by unfold maxLen at hm; omega⟩
    obtain ⟨b, off, rfl, he⟩ := hf i hi
    exact ⟨b, off, rfl, he⟩

theorem list2 {α : Type} {l : List α} (h : l.length = 2) : ∃ a b, l = [a, b] := by
  match l, h with
  | [a, b], _ => exact ⟨a, b, rfl⟩

theorem elem_of {b off i n : Nat} {cs : List Value} {x : DataW H × List MemPlace} (hc : w.cells? 0 ⟨b, off + i * 2, none⟩ 2 = some cs) (h : DataW.trod enc Ybaz.prog w 0 spare held n 30 cs = some x) :
    ∃ fm : Int × Nat, b < w.heap.size ∧ w.cell? ⟨b, off + i * 2, none⟩ = some (.int .i32 fm.1) ∧ w.cell? ⟨b, off + i * 2 + 1, none⟩ = some (.int .u8 (fm.2 : Int)) ∧ -2147483648 ≤ fm.1 ∧ fm.1 ≤ 2147483647 ∧ fm.2 ≤ 255 := by
  obtain ⟨_, hl, hcell⟩ := World.cells?_some hc
  obtain ⟨c0, c1, rfl⟩ := list2 hl
  obtain ⟨y0, y1, m, _, _, t0, t1⟩ := trod_struct2 Ybaz.underlying30 h
  have k0 := hcell 0 (by omega)
  have k1 := hcell 1 (by omega)
  rw [add_none] at k0 k1
  have e21 : Ybaz.prog.cellsOf 21 = 1 := by kernel_rfl
  have e5 : Ybaz.prog.cellsOf 5 = 1 := by kernel_rfl
  simp [e21, e5] at t0 t1 k0 k1
  obtain ⟨s, es, _, hs⟩ := DataW.trod_int Ybaz.underlying21 t0
  obtain ⟨e, ee, _, he⟩ := DataW.trod_int Ybaz.underlying5 t1
  simp at es ee
  subst es ee
  obtain ⟨s0, s1⟩ := bounds_i32 hs
  obtain ⟨e0, e1⟩ := bounds_u8 he
  exact ⟨(s, e.toNat), cell_lt k0, k0, by rw [k1]; simp [Int.toNat_of_nonneg e0], s0, s1, by show e.toNat ≤ 255; omega⟩

theorem argS_of {fuel len cap : Nat} {a : Option Addr} {x : DataW H × List MemPlace} (h : DataW.trod enc Ybaz.prog w 0 spare held fuel 22 [.slice a len cap] = some x) :
    ∃ (F : Nat → Int) (M : Nat → Nat), ArgS w w.heap.size a len F M ∧ (len : Int) ≤ 9223372036854775807 := by
  rcases Deep.open_slice Ybaz.underlying22 h with ⟨hcs, _⟩ | ⟨a', len', cap', m, n, D, Pl, hcs, _, hl, hm, hmm, _, hx⟩
  · simp at hcs
    obtain ⟨rfl, rfl, rfl⟩ := hcs
    exact ⟨fun _ => 0, fun _ => 0, fun i hi => absurd hi (Nat.not_lt_zero _), by decide⟩
  · simp at hcs
    obtain ⟨rfl, rfl, rfl⟩ := hcs
    have e30 : Ybaz.prog.cellsOf 30 = 2 := by kernel_rfl
    rw [e30] at hx
    have key : ∀ i, i < len → ∃ fm : Int × Nat, ∃ b off, a' = ⟨b, off, none⟩ ∧ b < w.heap.size ∧ w.cell? ⟨b, off + i * 2, none⟩ = some (.int .i32 fm.1) ∧ w.cell? ⟨b, off + i * 2 + 1, none⟩ = some (.int .u8 (fm.2 : Int)) ∧ -2147483648 ≤ fm.1 ∧ fm.1 ≤ 2147483647 ∧ fm.2 ≤ 255 := fun i hi => by
      obtain ⟨cs0, h0, _⟩ := hx 0 (by rw [hmm]; split <;> omega)
      obtain ⟨cs, h1, h2⟩ := hx i (by rw [hmm]; split <;> omega)
      have g0 := (World.cells?_some h0).2.2 0 (by omega)
      have hl0 := (World.cells?_some h0).2.1
      obtain ⟨b, off, sp⟩ := a'
      have hsp : sp = none := by
        rw [List.getElem?_eq_getElem (by omega)] at g0
        have := World.cell?_spot g0
        simpa [Addr.add] using this
      subst hsp
      rw [add_none] at h1
      obtain ⟨fm, he⟩ := elem_of h1 h2
      exact ⟨fm, b, off, rfl, he⟩
    obtain ⟨f, hf⟩ := Deep.choose_lt key
    refine ⟨fun i => (f i).1, fun i => (f i).2, fun i hi => ?_, by unfold maxLen at hm; omega⟩
    obtain ⟨b, off, rfl, he⟩ := hf i hi
    exact ⟨b, off, rfl, he⟩
end
end Go.Proofs.YbulkcemcGreat
