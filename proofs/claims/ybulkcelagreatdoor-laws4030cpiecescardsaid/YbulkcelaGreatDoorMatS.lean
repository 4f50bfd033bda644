/-
  What matching sees of a column (seat b4030aZD).
-/
import Derived.Test.YbulkcelaGreatDoorDel
namespace Go.Proofs.YbulkcelaGreatDoor
open Go.RowKit Go.MapKept Go.Lib Go.Shelf Go.Maps

/-- A column that lies between lo and hi, as it was when it was made. -/
def ColIn (lo hi : Nat) (w : World) (cb : Nat) (ks : List Int) : Prop := ∃ wc : World, wc.heap.size = hi ∧ ColAt lo wc cb ks ∧ ∀ k, lo ≤ k → k < hi → w.heap[k]? = wc.heap[k]?

theorem ColIn.kept {lo hi cb : Nat} {w w' : World} {ks : List Int} (h : ColIn lo hi w cb ks) (hk : ∀ k, lo ≤ k → k < hi → w'.heap[k]? = w.heap[k]?) : ColIn lo hi w' cb ks := by
  obtain ⟨wc, h1, h2, h3⟩ := h
  exact ⟨wc, h1, h2, fun k a b => (hk k a b).trans (h3 k a b)⟩

/-- A value that some kind holds. -/
structure ColHas (lo hi : Nat) (w : World) (cb nb hb nh hc t g gc j m : Nat) : Prop where
  nbl : lo ≤ nb ∧ nb < hi
  cbl : lo ≤ cb ∧ cb < hi
  hbl : lo ≤ hb ∧ hb < hi
  gl : lo ≤ g ∧ g < hi
  num : ∃ ne : Ents, MapL w nb ne ∧ (valS m, .int .i32 ((t + 1 : Nat) : Int)) ∈ ne
  c0 : w.cell? ⟨cb, 0, none⟩ = some (.map (some nb))
  c2 : w.cell? ⟨cb, 2, none⟩ = some (.slice (some ⟨hb, 0, none⟩) nh hc)
  tn : t + 1 < nh
  nl : nh ≤ 1000
  ch : w.cell? ⟨hb, t + 1, none⟩ = some (.slice (some ⟨g, 0, none⟩) 1 gc)
  cg : w.cell? ⟨g, 0, none⟩ = some (.int .i64 (j : Nat))

theorem ColHas.kept {lo hi cb nb hb nh hc t g gc j m : Nat} {w w' : World} (h : ColHas lo hi w cb nb hb nh hc t g gc j m) (hk : ∀ k, lo ≤ k → k < hi → w'.heap[k]? = w.heap[k]?) : ColHas lo hi w' cb nb hb nh hc t g gc j m := by
  obtain ⟨h1, h2, h3, h4, ⟨ne, h5, h6⟩, c0, c2, tn, nl, ch, cg⟩ := h
  exact ⟨h1, h2, h3, h4, ⟨ne, h5.block (hk nb h1.1 h1.2), h6⟩, (World.cell?_of_block (hk cb h2.1 h2.2)).trans c0, (World.cell?_of_block (hk cb h2.1 h2.2)).trans c2, tn, nl, (World.cell?_of_block (hk hb h3.1 h3.2)).trans ch, (World.cell?_of_block (hk g h4.1 h4.2)).trans cg⟩

theorem owns_cell {w : World} {base e n c g : Nat} {xs : List Value} (h : w.ownsRow base e 1 (.slice (some ⟨g, 0, none⟩) n c) n xs) {j : Nat} {u : Value} (hj : xs[j]? = some u) : base ≤ g ∧ g < w.heap.size ∧ w.cell? ⟨g, j, none⟩ = some u := by
  obtain ⟨h0, ⟨h1, _⟩ | ⟨g', cap, cur, e1, e2, e3, e4, e5, e6, e7⟩⟩ := h
  · cases h1
  · injection e1 with e1 _ _
    injection e1 with e1
    injection e1 with e1 _ _
    subst e1
    refine ⟨e2, (Array.getElem?_eq_some_iff.1 e3).1, ?_⟩
    rw [Joins.cell_of_block e3 j]
    rw [← e7, List.getElem?_take] at hj
    split at hj
    · rw [← hj]; simp
    · cases hj

theorem ColAt.held {lo cb j m : Nat} {w : World} {ks : List Int} (h : ColAt lo w cb ks) (hj : ks[j]? = some (m : Int)) (hK : ks.length ≤ 300) : ∃ nb hb nh hc t g gc, ColHas lo w.heap.size w cb nb hb nh hc t g gc j m := by
  obtain ⟨nb, vb, hb, hc, hl, hJ, hll, hH⟩ := h
  have hjl : j < ks.length := (List.getElem?_eq_some_iff.1 hj).1
  have hkd : ks.getD j 0 = (m : Int) := by simp [List.getD, hj]
  have hjm : j ∈ posK ks ks.length := by
    unfold posK
    rw [List.mem_filter, List.mem_range]
    exact ⟨hjl, by rw [hkd]; simp⟩
  obtain ⟨t, htl, htj⟩ := List.getElem_of_mem hjm
  have htj' : (posK ks ks.length)[t]? = some j := by rw [List.getElem?_eq_getElem htl, htj]
  obtain ⟨g, c, hg1, hg2⟩ := hH t j htj'
  have hp := posK_le ks ks.length
  obtain ⟨a1, a2, a3⟩ := owns_cell hg2 (j := 0) rfl
  obtain ⟨b1, b2, b3⟩ := owns_cell hJ.row hg1
  refine ⟨nb, hb, hl.length, hc, t, g, c, ⟨hJ.nbl, hJ.num.lt⟩, ⟨hJ.cbl, (Array.getElem?_eq_some_iff.1 hJ.box).1⟩, ⟨b1, b2⟩, ⟨a1, a2⟩, ⟨_, hJ.num, ?_⟩, Joins.cell_of_block hJ.box 0, Joins.cell_of_block hJ.box 2, by omega, by omega, b3, a3⟩
  unfold numEnts
  refine List.mem_map.2 ⟨t, List.mem_range.2 htl, ?_⟩
  rw [show (posK ks ks.length).getD t 0 = j by simp [List.getD, htj'], hkd]
  simp

/-- A value that no kind holds. -/
structure ColNot (lo hi : Nat) (w : World) (cb nb m : Nat) : Prop where
  nbl : lo ≤ nb ∧ nb < hi
  cbl : lo ≤ cb ∧ cb < hi
  num : ∃ ne : Ents, MapL w nb ne ∧ ∀ v, (valS m, v) ∉ ne
  c0 : w.cell? ⟨cb, 0, none⟩ = some (.map (some nb))

theorem ColNot.kept {lo hi cb nb m : Nat} {w w' : World} (h : ColNot lo hi w cb nb m) (hk : ∀ k, lo ≤ k → k < hi → w'.heap[k]? = w.heap[k]?) : ColNot lo hi w' cb nb m := by
  obtain ⟨h1, h2, ⟨ne, h5, h6⟩, c0⟩ := h
  exact ⟨h1, h2, ⟨ne, h5.block (hk nb h1.1 h1.2), h6⟩, (World.cell?_of_block (hk cb h2.1 h2.2)).trans c0⟩

theorem ColAt.nope {lo cb m : Nat} {w : World} {ks : List Int} (h : ColAt lo w cb ks) (hm : m < 3) (hr : ∀ x ∈ ks, -1 ≤ x ∧ x ≤ 2) (hj : (m : Int) ∉ ks) : ∃ nb, ColNot lo w.heap.size w cb nb m := by
  obtain ⟨nb, vb, hb, hc, hl, hJ, hll, hH⟩ := h
  refine ⟨nb, ⟨hJ.nbl, hJ.num.lt⟩, ⟨hJ.cbl, (Array.getElem?_eq_some_iff.1 hJ.box).1⟩, ⟨_, hJ.num, fun v hv => ?_⟩, Joins.cell_of_block hJ.box 0⟩
  obtain ⟨t, ht, e⟩ := List.mem_map.1 hv
  have ht' := List.mem_range.1 ht
  injection e with e1 _
  have hpm : (posK ks ks.length).getD t 0 ∈ posK ks ks.length := by simp [List.getD, ht']
  obtain ⟨hp1, hp2⟩ := posK_mem hpm
  generalize (posK ks ks.length).getD t 0 = p at *
  have hmem : ks.getD p 0 ∈ ks := by simp [List.getD, hp1]
  have hpr := hr _ hmem
  have he := valS_inj (by omega) hm e1
  exact hj (by rw [show (m : Int) = ks.getD p 0 by omega]; exact hmem)

/-- What column leaves, whether it has just been made or not. -/
structure CEnd (W w' : World) (mb cb lo hi : Nat) (ks : List Int) : Prop where
  os : w'.os = W.os
  tape : w'.tape = W.tape
  output : w'.output = W.output
  size : W.heap.size ≤ w'.heap.size
  block : ∀ k, k < W.heap.size → k ≠ mb → w'.heap[k]? = W.heap[k]?
  cols : MapL w' mb [(aS, .pointer (some ⟨cb, 0, none⟩))]
  hi' : hi ≤ w'.heap.size
  col : ColIn lo hi w' cb ks

/-- column's contract, as matching needs it: Z is what is known of where the column lies, dv the row that matching appends to. -/
def ColC (w0 : World) (xb mb : Nat) (dv : Value) (ks : List Int) (Z : Nat → Nat → Nat → Prop) : Prop := ∀ W, Below w0.heap.size w0 W → w0.heap.size < W.heap.size → Calls Ybaz.prog 70 #[.pointer (some ⟨xb, 0, none⟩), .string aS] W fun e w' => ∃ cb lo hi, e = .returned (.pointer (some ⟨cb, 0, none⟩)) ∧ Z cb lo hi ∧ (∀ k, lo ≤ k → k < hi → k ≠ w0.heap.size) ∧ (∀ d, dv.ownBlock = some d → hi ≤ d) ∧ CEnd W w' mb cb lo hi ks

theorem colC_new (xb mb vvb vc ib : Nat) (ks : List Int) (vs : Nat → Value) (w : World) (hx : w.heap[xb]? = some (.cells #[.slice (some ⟨vvb, 0, none⟩) ks.length vc, .int .i32 0, .int .u32 0, .map (some mb)] 148 (0, 0))) (hmb : MapL w mb []) (hK : ks.length ≤ 300) (hnd : ks.Nodup) (hr : ∀ x ∈ ks, -1 ≤ x ∧ x ≤ 2)
    (hvs : ∀ (j : Nat) (k : Int), ks[j]? = some k → w.cell? ⟨vvb, j, none⟩ = some (vs j) ∧ VisAt w ib (vs j) k) (hvl : vvb < w.heap.size) (hvx : vvb ≠ xb) :
    ColC w xb mb (.slice none 0 0) ks (fun _ lo hi => w.heap.size ≤ lo ∧ lo ≤ hi) := by
  intro W hW hlt
  have hxl : xb < w.heap.size := (Array.getElem?_eq_some_iff.1 hx).1
  have hsz := hW.size
  refine (col_new xb mb vvb vc ib ks vs W ((hW.block xb hxl).trans hx) (hmb.block (hW.block mb hmb.lt)) hK hnd hr (fun j k hj => ?_) (by omega) hvx).mono ?_
  · obtain ⟨h1, h2⟩ := hvs j k hj
    exact ⟨(World.cell?_of_block (hW.block vvb hvl)).trans h1, h2.kept fun r l _ hM => hM.block (hW.block r hM.lt)⟩
  · rintro e w' ⟨cb, rfl, h⟩
    exact ⟨cb, W.heap.size, w'.heap.size, rfl, ⟨by omega, h.size⟩, fun k h1 _ => by omega, fun d hd => by simp [Value.ownBlock] at hd, h.os, h.tape, h.output, h.size, h.block, h.cols, Nat.le_refl _, w', rfl, h.col, fun _ _ _ => rfl⟩

theorem colC_old (xb mb vc cb K lo hi : Nat) (ks : List Int) (vp : Option Addr) (dv : Value) (w : World) (hx : w.heap[xb]? = some (.cells #[.slice vp K vc, .int .i32 0, .int .u32 0, .map (some mb)] 148 (0, 0))) (hmb : MapL w mb [(aS, .pointer (some ⟨cb, 0, none⟩))]) (hhi : hi ≤ w.heap.size) (hc : ColIn lo hi w cb ks) (hd : ∀ d, dv.ownBlock = some d → hi ≤ d) :
    ColC w xb mb dv ks (fun c l h => c = cb ∧ l = lo ∧ h = hi) := by
  intro W hW _
  have hxl : xb < w.heap.size := (Array.getElem?_eq_some_iff.1 hx).1
  have hsz := hW.size
  have hmb' := hmb.block (hW.block mb hmb.lt)
  refine (col_old xb mb vc cb K vp W ((hW.block xb hxl).trans hx) hmb').mono ?_
  rintro e w' ⟨rfl, h⟩
  have hs := h.size
  exact ⟨cb, lo, hi, rfl, ⟨rfl, rfl, rfl⟩, fun k _ h2 => by omega, hd, h.os, h.tape, h.output, by omega, fun k _ _ => h.block k, hmb'.block (h.block mb), by omega, hc.kept fun k _ h2 => (h.block k).trans (hW.block k (by omega))⟩
end Go.Proofs.YbulkcelaGreatDoor
