/-
  FROM THE ROW's READING OF THE ARGUMENT TO WHAT THE WALKS ARE TOLD OF IT (seat b4030a).
-/
import Derived.Test.YbulkcelaFlown
import Derived.ProofKit
import Derived.ChangeOld
import Derived.OpenShut
namespace Go.Proofs.Ybulkcela
open Go.ChangeShapes Go.WideShapes Go.ChangeAt Go.RowKit

section
variable {H : Type} {enc : TypeId × Value → H} {w : World} {spare : Nat → Bool} {held : Bool}

theorem cell_lt {w : World} {a : Addr} {v : Value} (h : w.cell? a = some v) : a.block < w.heap.size := by
  unfold World.cell? at h
  by_cases hb : a.block < w.heap.size
  · exact hb
  · have : w.heap[a.block]? = none := Array.getElem?_eq_none (by omega)
    simp [this] at h

theorem add_none (b o j : Nat) : Addr.add ⟨b, o, none⟩ j = ⟨b, o + j, none⟩ := by
  unfold Addr.add
  split
  · rename_i h; subst h; rfl
  · rfl

/-- A slice of one-cell elements, each read by a law of its own. -/
theorem slice_of {t e : TypeId} {Q : Value → Prop} (ht : Yba.prog.underlying t = some (.slice e)) (hc : Yba.prog.cellsOf e = 1) {fuel : Nat} {v : Value} {x : DataW H × List MemPlace} (h : DataW.trod enc Yba.prog w 0 spare held fuel t [v] = some x)
    (hQ : ∀ n u y, DataW.trod enc Yba.prog w 0 spare held n e [u] = some y → Q u) : SliceOf w w.heap.size Q v := by
  rcases Deep.open_slice1 ht hc h with ⟨hcs, _⟩ | ⟨a, len, cap, m, n, V, D, Pl, hcs, _, hl, hm, hmm, _, hx⟩
  · obtain rfl : v = .slice none 0 0 := by simpa using hcs
    exact ⟨none, 0, 0, rfl, by decide, fun j hj => absurd hj (Nat.not_lt_zero _)⟩
  · obtain rfl : v = .slice (some a) len cap := by simpa using hcs
    refine ⟨some a, len, cap, rfl, by unfold maxLen at hm; omega, fun j hj => ?_⟩
    obtain ⟨g1, _⟩ := hx 0 (by rw [hmm]; split <;> omega)
    obtain ⟨h1, h2⟩ := hx j (by rw [hmm]; split <;> omega)
    have hlt := cell_lt g1
    have hsp := World.cell?_spot g1
    obtain ⟨b, o, sp⟩ := a
    simp only [Addr.add, if_true] at hlt hsp
    subst hsp
    rw [add_none] at h1
    exact ⟨b, o, V j, rfl, hlt, h1, hQ _ _ _ h2⟩

theorem strs_of {fuel : Nat} {v : Value} {x : DataW H × List MemPlace} (h : DataW.trod enc Yba.prog w 0 spare held fuel 29 [v] = some x) : Strs w w.heap.size v :=
  slice_of Yba.underlying29 (by kernel_rfl) h fun n u y hy => by
    obtain ⟨s, e, _, hs⟩ := DataW.trod_string Yba.underlying9 hy
    exact ⟨s, by simpa using e, hs⟩

theorem lists_of {fuel : Nat} {v : Value} {x : DataW H × List MemPlace} (h : DataW.trod enc Yba.prog w 0 spare held fuel 33 [v] = some x) : Lists w w.heap.size v :=
  slice_of Yba.underlying33 (by kernel_rfl) h fun _ _ _ hy => strs_of hy

theorem u8s_of {fuel : Nat} {v : Value} {x : DataW H × List MemPlace} (h : DataW.trod enc Yba.prog w 0 spare held fuel 32 [v] = some x) : SliceOf w w.heap.size IsU8 v :=
  slice_of Yba.underlying32 (by kernel_rfl) h fun n u y hy => by
    obtain ⟨z, e, _, hz⟩ := DataW.trod_int Yba.underlying5 hy
    have := bounds_u8 hz
    exact ⟨z, by simpa using e, this.1, this.2⟩

theorem list4 {α : Type} {l : List α} (h : l.length = 4) : ∃ a b c d, l = [a, b, c, d] := by
  match l, h with
  | [a, b, c, d], _ => exact ⟨a, b, c, d, rfl⟩

/-- One element. -/
theorem elem_of {b off i n : Nat} {cs : List Value} {x : DataW H × List MemPlace} (hc : w.cells? 0 ⟨b, off + i * 4, none⟩ 4 = some cs) (h : DataW.trod enc Yba.prog w 0 spare held n 35 cs = some x) :
    ∃ s e : Int, Elem w w.heap.size b off (fun _ => s) (fun _ => e) i := by
  obtain ⟨_, hl, hcell⟩ := World.cells?_some hc
  obtain ⟨c0, c1, c2, c3, rfl⟩ := list4 hl
  obtain ⟨y0, y1, y2, y3, m, _, _, t0, t1, t2, t3⟩ := Joins.trod_struct4 Yba.underlying35 h
  have k0 := hcell 0 (by omega)
  have k1 := hcell 1 (by omega)
  have k2 := hcell 2 (by omega)
  have k3 := hcell 3 (by omega)
  rw [add_none] at k0 k1 k2 k3
  have e32 : Yba.prog.cellsOf 32 = 1 := by kernel_rfl
  have e33 : Yba.prog.cellsOf 33 = 1 := by kernel_rfl
  have e2 : Yba.prog.cellsOf 2 = 1 := by kernel_rfl
  simp [e32, e33, e2] at t0 t1 t2 t3 k0 k1 k2 k3
  obtain ⟨s, es, _, hs⟩ := DataW.trod_int Yba.underlying2 t2
  obtain ⟨e, ee, _, he⟩ := DataW.trod_int Yba.underlying2 t3
  simp at es ee
  subst es ee
  obtain ⟨s0, s1⟩ := bounds_i64 hs
  obtain ⟨e0, e1⟩ := bounds_i64 he
  exact ⟨s, e, cell_lt k0, ⟨c0, k0, u8s_of t0⟩, ⟨c1, k1, lists_of t1⟩, k2, k3, s0, s1, e0, e1⟩

theorem arg_of {fuel len cap : Nat} {a : Option Addr} {x : DataW H × List MemPlace} (h : DataW.trod enc Yba.prog w 0 spare held fuel 22 [.slice a len cap] = some x) :
    ∃ S E : Nat → Int, Arg w w.heap.size a len S E ∧ (len : Int) ≤ 9223372036854775807 := by
  rcases Deep.open_slice Yba.underlying22 h with ⟨hcs, _⟩ | ⟨a', len', cap', m, n, D, Pl, hcs, _, hl, hm, hmm, _, hx⟩
  · simp at hcs
    obtain ⟨rfl, rfl, rfl⟩ := hcs
    exact ⟨fun _ => 0, fun _ => 0, fun i hi => absurd hi (Nat.not_lt_zero _), by decide⟩
  · simp at hcs
    obtain ⟨rfl, rfl, rfl⟩ := hcs
    have e35 : Yba.prog.cellsOf 35 = 4 := by kernel_rfl
    rw [e35] at hx
    have key : ∀ i, i < len → ∃ se : Int × Int, ∃ b off, a' = ⟨b, off, none⟩ ∧ Elem w w.heap.size b off (fun _ => se.1) (fun _ => se.2) i := fun i hi => by
      obtain ⟨cs0, h0, _⟩ := hx 0 (by rw [hmm]; split <;> omega)
      obtain ⟨cs, h1, h2⟩ := hx i (by rw [hmm]; split <;> omega)
      have g0 := (World.cells?_some h0).2.2 0 (by omega)
      have hl0 := (World.cells?_some h0).2.1
      obtain ⟨b, off, sp⟩ := a'
      have hsp : sp = none := by
        rw [List.getElem?_eq_getElem (by omega)] at g0
        have := World.cell?_spot g0
        simpa [Addr.add] using this
      subst hsp
      rw [add_none] at h1
      obtain ⟨s, e, he⟩ := elem_of h1 h2
      exact ⟨(s, e), b, off, rfl, he⟩
    obtain ⟨f, hf⟩ := Deep.choose_lt key
    refine ⟨fun i => (f i).1, fun i => (f i).2, fun i hi => ?_, by unfold maxLen at hm; omega⟩
    obtain ⟨b, off, rfl, he⟩ := hf i hi
    exact ⟨b, off, rfl, he.lt, he.names, he.values, he.start, he.fin, he.s0, he.s1, he.e0, he.e1⟩

end
end Go.Proofs.Ybulkcela
