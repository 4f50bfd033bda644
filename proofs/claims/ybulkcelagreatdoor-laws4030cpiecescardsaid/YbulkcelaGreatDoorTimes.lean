/-
  Rows of times: sorted (seat b4030aZD).
-/
import Derived.Test.YbulkcelaGreatDoorMatN
import Derived.Lib.RowBridge
import Derived.Sort.OwnSortedInts
import Derived.Shelf.SlSortCmp.NoneTotal
import Derived.Lib.SlicesCompact
namespace Go.Proofs.YbulkcelaGreatDoor
open Go.RowKit Go.MapKept Go.Lib Go.Shelf Go.Maps Go.Sort

def encT (e : Int) : List Value := [.int .u64 0, .int .i64 e, .pointer none]

/-- A row of times, in memory. -/
structure TB (w : World) (b cap : Nat) (d : Array Int) : Prop where
  blk : ∃ cur : Array Value, w.heap[b]? = some (.cells cur 29 (0, 0)) ∧ cur.size = cap * 3
  few : d.size ≤ cap
  c0 : ∀ j, j < d.size → w.cell? ⟨b, j * 3, none⟩ = some (.int .u64 0)
  c1 : ∀ j, j < d.size → w.cell? ⟨b, j * 3 + 1, none⟩ = some (.int .i64 d[j]!)
  c2 : ∀ j, j < d.size → w.cell? ⟨b, j * 3 + 2, none⟩ = some (.pointer none)

theorem TB.lt {w : World} {b cap : Nat} {d : Array Int} (h : TB w b cap d) : b < w.heap.size := by
  obtain ⟨cur, hc, _⟩ := h.blk
  exact (Array.getElem?_eq_some_iff.1 hc).1
theorem TB.block {w w' : World} {b cap : Nat} {d : Array Int} (h : TB w b cap d) (hb : w'.heap[b]? = w.heap[b]?) : TB w' b cap d := by
  obtain ⟨cur, hc, hs⟩ := h.blk
  exact ⟨⟨cur, hb.trans hc, hs⟩, h.few, fun j hj => (World.cell?_of_block hb).trans (h.c0 j hj), fun j hj => (World.cell?_of_block hb).trans (h.c1 j hj), fun j hj => (World.cell?_of_block hb).trans (h.c2 j hj)⟩
theorem TB.frozen {w : World} {b cap : Nat} {d : Array Int} (h : TB w b cap d) (o : Nat) : w.frozen? ⟨b, o, none⟩ = false := by
  obtain ⟨cur, hc, hs⟩ := h.blk
  exact Joins.unfrozen_of_block hc o

theorem encT_length (L : List Int) : (L.flatMap encT).length = L.length * 3 := by
  induction L with
  | nil => rfl
  | cons a l ih => rw [List.flatMap_cons, List.length_append, ih]; simp [encT]; omega

theorem encT_get (L : List Int) (k c : Nat) (hc : c < 3) (hk : k < L.length) : (L.flatMap encT)[k * 3 + c]? = (encT (L.getD k 0))[c]? := by
  induction L generalizing k with
  | nil => exact absurd hk (Nat.not_lt_zero _)
  | cons a l ih =>
    rw [List.flatMap_cons]
    cases k with
    | zero =>
      rw [List.getElem?_append_left (by simp [encT]; omega)]
      simp
    | succ k =>
      rw [List.getElem?_append_right (by simp [encT]; omega)]
      rw [show (k + 1) * 3 + c - (encT a).length = k * 3 + c by simp [encT]; omega]
      rw [ih k (by simpa using hk)]
      simp

theorem encT_ext {L : List Int} {l : List Value} (hl : l.length = L.length * 3) (h : ∀ k c, k < L.length → c < 3 → l[k * 3 + c]? = (encT (L.getD k 0))[c]?) : l = L.flatMap encT := by
  refine List.ext_getElem? fun j => ?_
  by_cases hj : j < L.length * 3
  · have e : j / 3 * 3 + j % 3 = j := by omega
    rw [← e, h (j / 3) (j % 3) (by omega) (by omega), encT_get L (j / 3) (j % 3) (by omega) (by omega)]
  · rw [List.getElem?_eq_none (by omega), List.getElem?_eq_none (by rw [encT_length]; omega)]

theorem TB.of_row {w : World} {base b cap : Nat} {L : List Int} (h : w.ownsRow base 29 3 (.slice (some ⟨b, 0, none⟩) L.length cap) L.length (L.flatMap encT)) : TB w b cap L.toArray ∧ base ≤ b ∧ cap ≤ maxLen := by
  obtain ⟨h0, ⟨e, _⟩ | ⟨g, cp, cur, e, e2, e3, e4, e5, e6, e7⟩⟩ := h
  · cases e
  cases e
  have hc : ∀ k c, k < L.length → c < 3 → w.cell? ⟨b, k * 3 + c, none⟩ = (encT (L.getD k 0))[c]? := fun k c hk hc => by
    rw [← encT_get L k c hc hk, ← e7, List.getElem?_take, if_pos (by omega), Joins.cell_of_block e3]
    simp
  refine ⟨⟨⟨cur, e3, e6⟩, by simpa using e4, fun j hj => ?_, fun j hj => ?_, fun j hj => ?_⟩, e2, e5⟩
  · have hj' : j < L.length := by simpa using hj
    exact hc j 0 hj' (by omega)
  · have hj' : j < L.length := by simpa using hj
    have := hc j 1 hj' (by omega)
    rw [this]
    simp [encT, List.getD, hj']
  · have hj' : j < L.length := by simpa using hj
    exact hc j 2 hj' (by omega)

theorem TB.row {w : World} {base b cap : Nat} {L : List Int} (h : TB w b cap L.toArray) (hb : base ≤ b) (hc : cap ≤ maxLen) : w.ownsRow base 29 3 (.slice (some ⟨b, 0, none⟩) L.length cap) L.length (L.flatMap encT) := by
  obtain ⟨cur, e3, e6⟩ := h.blk
  have hf : L.length ≤ cap := by simpa using h.few
  refine ⟨encT_length L, .inr ⟨b, cap, cur, rfl, hb, e3, hf, hc, e6, ?_⟩⟩
  refine encT_ext (by simp; omega) fun k c hk hc => ?_
  rw [List.getElem?_take, if_pos (by omega)]
  have hk' : k < L.toArray.size := by simpa using hk
  have hcell : w.cell? ⟨b, k * 3 + c, none⟩ = cur[k * 3 + c]? := Joins.cell_of_block e3 _
  rw [Array.getElem?_toList, ← hcell]
  rcases (show c = 0 ∨ c = 1 ∨ c = 2 by omega) with rfl | rfl | rfl
  · exact h.c0 k hk'
  · rw [h.c1 k hk']
    simp [encT, List.getD, hk]
  · exact h.c2 k hk'

def cmpI (x y : Int) : Int := if x < y then -1 else if y < x then 1 else 0
theorem ltB (x y : Int) : ltOf cmpI x y = decide (x < y) := by
  show (decide (cmpI x y < 0)) = decide (x < y)
  unfold cmpI
  by_cases h1 : x < y
  · simp [h1]
  · by_cases h2 : y < x <;> simp [h1, h2]
theorem swoB : SWO (ltOf cmpI) where
  irrefl x := by rw [ltB]; simp
  trans x y z h1 h2 := by rw [ltB] at *; simp at *; omega
  ntrans x y z h1 h2 := by rw [ltB] at *; simp at *; omega

def sortI (l : List Int) : List Int := l.mergeSort fun x y => decide (x ≤ y)
theorem sortI_sorted (l : List Int) : (sortI l).Pairwise (· ≤ ·) := by
  have h := List.pairwise_mergeSort (le := fun x y : Int => decide (x ≤ y)) (fun a b c h1 h2 => by simp at *; omega) (fun a b => by simp; omega) l
  exact h.imp (fun h => by simpa using h)
theorem sortI_mem {l : List Int} {x : Int} : x ∈ sortI l ↔ x ∈ l := List.mem_mergeSort
theorem sortI_length (l : List Int) : (sortI l).length = l.length := List.length_mergeSort l

theorem swK_heap {α : Type} [Inhabited α] (enc : α → List Value) (k : Nat) (w : World) (blk off n : Nat) (d : Array α) (os : Array Obj) (j : Nat) (h1 : j ≠ blk) (h2 : j < w.heap.size) : (sortWorldK enc k w blk off n d os).heap[j]? = w.heap[j]? := by
  show ((w.heap.modify blk (onCells (putCells id off (flatK enc k d)))) ++ os)[j]? = w.heap[j]?
  rw [Array.getElem?_append_left (by simpa using h2), Array.getElem?_modify, if_neg (Ne.symm h1)]

theorem swK_block {α : Type} [Inhabited α] (enc : α → List Value) (k : Nat) (w : World) (blk off n : Nat) (d : Array α) (os : Array Obj) {cur : Array Value} {t : TypeId} (h : w.heap[blk]? = some (.cells cur t (0, 0))) :
    ∃ cur' : Array Value, cur'.size = cur.size ∧ (sortWorldK enc k w blk off n d os).heap[blk]? = some (.cells cur' t (0, 0)) := by
  have hlt := (Array.getElem?_eq_some_iff.1 h).1
  refine ⟨putCells id off (flatK enc k d) cur, by simp [putCells], ?_⟩
  show ((w.heap.modify blk (onCells (putCells id off (flatK enc k d)))) ++ os)[blk]? = _
  rw [Array.getElem?_append_left (by simpa using hlt), Array.getElem?_modify, if_pos rfl, h]
  rfl

theorem sort57 (b c : Nat) (l : List Int) (w : World) (h : TB w b c l.toArray) (hl : l.length ≤ 1000) :
    Calls Ybaz.prog 57 #[.slice (some ⟨b, 0, none⟩) l.length c, .func (.func 58) #[] #[]] w fun e w' => e = .returned (.tuple #[]) ∧ w.grownBy w' (some b) ∧ TB w' b c (sortI l).toArray := by
  have hH : HoldsK encT 3 w b 0 l.toArray := by
    intro j hj
    rw [size_flatK] at hj
    have hj3 : j / 3 < l.toArray.size := by omega
    rw [get_flatK _ _ _ _ hj, Nat.zero_add]
    refine ⟨?_, h.frozen j⟩
    have e : j / 3 * 3 + j % 3 = j := by omega
    rcases (show j % 3 = 0 ∨ j % 3 = 1 ∨ j % 3 = 2 by omega) with e1 | e1 | e1
    · rw [show j = j / 3 * 3 by omega, h.c0 _ hj3, show j / 3 * 3 % 3 = 0 by omega]; rfl
    · rw [show j = j / 3 * 3 + 1 by omega, h.c1 _ hj3, show (j / 3 * 3 + 1) % 3 = 1 by omega, show (j / 3 * 3 + 1) / 3 = j / 3 by omega]; rfl
    · rw [show j = j / 3 * 3 + 2 by omega, h.c2 _ hj3, show (j / 3 * 3 + 2) % 3 = 2 by omega]; rfl
  have eg : ∀ args w, (callFunc 58 args).run Ybaz.prog w = .ok (.enter 58 args) w := enters_of Ybaz.func58 (by kernel_rfl) rfl
  have hs := AnyQ.slices_SortFunc_total Ybaz.sortT 3 Ybaz.isAgg29 Ybaz.sizeOf29 encT (fun _ => rfl) (fun x v hv => by simp [encT] at hv; rcases hv with rfl | rfl | rfl <;> rfl) cmpI swoB 58 #[] b 0 c l.toArray w eg (fun m os dk _ x y => compare58 x y _) hH h.lt (by simp; omega) (fun x y h1 h2 => by rw [ltB] at *; simp at *; omega)
  simp only [List.size_toArray] at hs
  change Calls Ybaz.prog 57 _ _ _ at hs
  refine hs.mono fun e w' ⟨he, n, os, hw⟩ => ⟨he, ?_, ?_⟩
  · rw [hw]
    exact ⟨rfl, rfl, rfl, size_sortWorldK_c encT 3 w b 0 n _ os, fun j h1 h2 => swK_heap encT 3 w b 0 n _ os j (fun e => h2 (by rw [e])) h1⟩
  · have e2 : (l.mergeSort fun x y => !(ltOf cmpI) y x) = sortI l := by
      unfold sortI
      congr 1
      funext x y
      rw [ltB]
      by_cases hh : y < x
      · simp [hh]
      · simp [hh]; omega
    rw [e2] at hw
    have hHK := holdsK_sortWorldK_c encT 3 w b 0 l.toArray (sortI l).toArray n os hH h.lt (by simp [sortI_length])
    rw [← hw] at hHK
    obtain ⟨cur, hc, hs⟩ := h.blk
    obtain ⟨cur', g1, g2⟩ := swK_block encT 3 w b 0 n (sortI l).toArray os hc
    rw [← hw] at g2
    refine ⟨⟨cur', g2, by rw [g1, hs]⟩, ?_, fun j hj => ?_, fun j hj => ?_, fun j hj => ?_⟩
    · have := h.few
      simpa [sortI_length] using this
    · have := (hHK.cell (i := j) (c := 0) hj (by omega)).1
      simpa [encT] using this
    · have := (hHK.cell (i := j) (c := 1) hj (by omega)).1
      simpa [encT] using this
    · have := (hHK.cell (i := j) (c := 2) hj (by omega)).1
      simpa [encT] using this
end Go.Proofs.YbulkcelaGreatDoor
