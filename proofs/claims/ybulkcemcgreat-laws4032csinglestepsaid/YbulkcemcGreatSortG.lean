/-
  LawS4032CSingleStep: the groups, sorted by offset (seat b4032aZ).
-/
import Derived.Test.YbulkcemcGreatRoverD
namespace Go.Proofs.YbulkcemcGreat
open Go.RowKit Go.Shelf Go.Lib Go.Sort

/-- A group: its offset, its blocks, where their row lies, its capacity. -/
abbrev GP := Int × List Int × Nat × Nat
def evP (x : GP) : Value := .slice (some ⟨x.2.2.1, 0, none⟩) x.2.1.length x.2.2.2
def encP (x : GP) : List Value := [.int .i64 x.1, evP x, .slice none 0 0]
def cmpP (x y : GP) : Int := cmpI x.1 y.1

theorem ltP (x y : GP) : ltOf cmpP x y = decide (x.1 < y.1) := ltOf_cmpI x.1 y.1
theorem swoP : SWO (ltOf cmpP) where
  irrefl x := by rw [ltP]; simp
  trans x y z h1 h2 := by rw [ltP] at *; simp at *; omega
  ntrans x y z h1 h2 := by rw [ltP] at *; simp at *; omega

def Apart (x y : GP) : Prop := x.2.2.1 ≠ y.2.2.1 ∧ x.1 ≠ y.1
theorem Apart.symm {x y : GP} (h : Apart x y) : Apart y x := ⟨fun e => h.1 e.symm, fun e => h.2 e.symm⟩

structure SortedG (B : Nat) (w : World) (vb cap : Nat) (P : List GP) : Prop where
  few : P.length ≤ cap
  blk : ∃ cur : Array Value, w.heap[vb]? = some (.cells cur 54 (0, 0)) ∧ cur.size = cap * 3 ∧ ∀ k x, P[k]? = some x → cur[k * 3]? = some (.int .i64 x.1) ∧ cur[k * 3 + 1]? = some (evP x)
  low : B ≤ vb
  rows : ∀ x ∈ P, w.ownsRow B 39 2 (evP x) x.2.1.length (x.2.1.flatMap encB)
  apart : ∀ x ∈ P, x.2.2.1 ≠ vb
  apart2 : P.Pairwise Apart
  sorted : P.Pairwise fun x y => x.1 < y.1

theorem sort13 (B vb cap : Nat) (G : List (Int × List Int)) (vs : Nat → Value) (w : World) (h : GrpsAt B w (.slice (some ⟨vb, 0, none⟩) G.length cap) G vs) (hnd : (G.map (·.1)).Nodup) (hl : G.length ≤ 1000) (hne : ∀ k, k < G.length → endG G k ≠ []) :
    Calls Ybaz.prog 13 #[.slice (some ⟨vb, 0, none⟩) G.length cap, .func (.func 14) #[] #[]] w fun e w' => (∃ v, e = .returned v) ∧ But vb w w' ∧ ∃ P : List GP, SortedG B w' vb cap P ∧ (P.map fun x => (x.1, x.2.1)).Perm G := by
  have eg : ∀ args w, (callFunc 14 args).run Ybaz.prog w = .ok (.enter 14 args) w := enters_of Ybaz.func14 (by kernel_rfl) rfl
  have hch : ∀ k, ∃ bc : Nat × Nat, k < G.length → vs k = .slice (some ⟨bc.1, 0, none⟩) (endG G k).length bc.2 := fun k => by
    by_cases hk : k < G.length
    · obtain ⟨g, c, e⟩ := Joins.ownsRow_form (h.ends k hk) (List.length_pos_iff.2 (hne k hk))
      exact ⟨(g, c), fun _ => e⟩
    · exact ⟨(0, 0), fun hk' => absurd hk' hk⟩
  obtain ⟨bc, hbc⟩ := Classical.axiomOfChoice hch
  obtain ⟨Q, hQ⟩ : ∃ Q : List GP, Q = (List.range G.length).map fun k => (keyG G k, endG G k, bc k) := ⟨_, rfl⟩
  have hQev : ∀ k, k < G.length → evP (keyG G k, endG G k, bc k) = vs k := fun k hk => (hbc k hk).symm
  have hQl : Q.length = G.length := by rw [hQ]; simp
  have hQg : ∀ j, j < G.length → Q.toArray[j]! = (keyG G j, endG G j, bc j) := fun j hj => by
    rw [hQ, getElem!_pos _ j (by simpa using hj)]; simp
  obtain ⟨hrl, ⟨e1, _⟩ | ⟨vb', cp, cur, e1, hBv, hh, hncap, hcm, hcs, htk⟩⟩ := h.row
  · cases e1
  cases e1
  have hvbl : vb < w.heap.size := (Array.getElem?_eq_some_iff.1 hh).1
  have hcell : ∀ j c, j < G.length → c < 3 → cur[j * 3 + c]? = (cellG G vs j)[c]? := fun j c hj hc => by
    have := flat3_get _ (cellG_length G vs) c hc _ _ hj
    rw [← htk, List.getElem?_take, if_pos (by omega)] at this
    simpa using this
  have hH : HoldsK encP 3 w vb 0 Q.toArray := by
    intro j hj
    rw [size_flatK] at hj
    have hj' : j < G.length * 3 := by simpa [hQl] using hj
    rw [get_flatK _ _ _ _ hj, hQg (j / 3) (by omega), Nat.zero_add]
    have hcc := hcell (j / 3) (j % 3) (by omega) (by omega)
    rw [show j / 3 * 3 + j % 3 = j by omega] at hcc
    refine ⟨?_, Joins.unfrozen_of_block hh _⟩
    rw [Joins.cell_of_block hh, hcc]
    have hev := hQev (j / 3) (by omega)
    rcases (show j % 3 = 0 ∨ j % 3 = 1 ∨ j % 3 = 2 by omega) with e | e | e
    · rw [e]; rfl
    · rw [e]; exact congrArg some hev.symm
    · rw [e]; rfl
  have hs := AnyQ.slices_SortFunc (α := GP) Ybaz.sortG 3 Ybaz.isAgg54 Ybaz.sizeOf54 encP (fun _ => rfl) (fun x u hu => ?one) cmpP swoP 14 #[] vb 0 cap Q.toArray w eg (fun m os dk _ x y => closure14 (x.1, evP x, .slice none 0 0) (y.1, evP y, .slice none 0 0) _) hH hvbl (by simp [hQl]; omega)
  case one =>
    simp [encP] at hu
    rcases hu with rfl | rfl | rfl <;> rfl
  simp only [List.size_toArray, hQl] at hs
  refine hs.mono fun e w' ⟨he, d', n, os, hp, hso, hw⟩ => ?_
  have hsz : d'.size = G.length := by rw [hp.1]; simp [hQl]
  have hperm : d'.toList.Perm Q := by
    have := hp.2.2
    have t1 : List.take G.length d'.toList = d'.toList := List.take_of_length_le (by simp [hsz])
    have t2 : List.take G.length Q = Q := List.take_of_length_le (by omega)
    simpa [t1, t2] using this
  have hbut : But vb w w' := by rw [hw]; exact swK_but _ _ _ _ _ _ _ _ hvbl
  have hmem : ∀ x ∈ d'.toList, ∃ k, k < G.length ∧ x = (keyG G k, endG G k, bc k) := fun x hx => by
    have := hperm.mem_iff.1 hx
    rw [hQ] at this
    obtain ⟨k, hk, e⟩ := List.mem_map.1 this
    exact ⟨k, List.mem_range.1 hk, e.symm⟩
  have hQap : Q.Pairwise Apart := by
    rw [hQ, List.pairwise_map]
    refine List.pairwise_lt_range.imp_of_mem fun {i j} hi hj hij => ⟨fun e => ?_, fun e => ?_⟩
    · have hi' := List.mem_range.1 hi
      have hj' := List.mem_range.1 hj
      refine h.apart2 i j (bc i).1 hi' hj' (by omega) (by rw [hbc i hi']; rfl) ?_
      rw [hbc j hj']
      show some (bc j).1 = some (bc i).1
      exact congrArg some e.symm
    · have hi' := List.mem_range.1 hi
      have hj' := List.mem_range.1 hj
      have hn := (List.nodup_iff_pairwise_ne.1 hnd)
      rw [List.pairwise_map] at hn
      have := List.pairwise_iff_getElem.1 hn i j hi' hj' hij
      apply this
      have e2 : keyG G i = keyG G j := e
      simpa [keyG, List.getD, hi', hj'] using e2
  refine ⟨⟨_, he⟩, hbut, d'.toList, ⟨by simpa [hsz] using hncap, ?_, hBv, fun x hx => ?_, fun x hx => ?_, ?_, ?_⟩, ?_⟩
  · obtain ⟨cur', hc1, hc2⟩ := swK_block encP 3 w vb 0 n d' os hh
    refine ⟨cur', by rw [hw]; exact hc2, by rw [hc1, hcs], fun k x hk => ?_⟩
    have hkl : k < d'.size := by
      have := (List.getElem?_eq_some_iff.1 hk).1
      simpa using this
    have hHK : HoldsK encP 3 w' vb 0 d' := by
      rw [hw]; exact holdsK_sortWorldK_c encP 3 w vb 0 Q.toArray d' n os hH hvbl (by rw [hsz]; simp [hQl])
    have hx : d'[k]! = x := by
      rw [getElem!_pos d' k hkl]
      have := hk
      simp [hkl] at this
      exact this
    have c0 := (hHK.cell (i := k) (c := 0) hkl (by omega)).1
    have c1 := (hHK.cell (i := k) (c := 1) hkl (by omega)).1
    rw [hx] at c0 c1
    rw [← hw] at hc2
    rw [Joins.cell_of_block hc2] at c0 c1
    simp only [Nat.zero_add, Nat.add_zero] at c0 c1
    exact ⟨c0, c1⟩
  · obtain ⟨k, hk, rfl⟩ := hmem x hx
    have hr := h.ends k hk
    rw [hbc k hk] at hr
    obtain ⟨h0, ⟨e1, _⟩ | ⟨g, cp2, cu2, e1, hB2, hh2, rest⟩⟩ := hr
    · cases e1
    · cases e1
      refine ⟨h0, .inr ⟨(bc k).1, (bc k).2, cu2, rfl, hB2, ?_, rest⟩⟩
      refine (hbut.same _ (fun e => ?_) (Array.getElem?_eq_some_iff.1 hh2).1).trans hh2
      exact h.apart k vb hk (by rw [hbc k hk, ← e]; rfl) rfl
  · obtain ⟨k, hk, rfl⟩ := hmem x hx
    intro e
    exact h.apart k vb hk (by rw [hbc k hk, ← e]; rfl) rfl
  · exact (hperm.pairwise_iff (fun h => Apart.symm h)).2 hQap
  · have hap := (hperm.pairwise_iff (fun h => Apart.symm h)).2 hQap
    rw [List.pairwise_iff_getElem] at hap ⊢
    intro i j hi hj hij
    have h1 := hap i j hi hj hij
    have hi' : i < d'.size := by simpa using hi
    have hj' : j < d'.size := by simpa using hj
    have h2 := hso i j (Nat.zero_le _) hij (by rw [← hsz]; exact hj')
    rw [ltP, getElem!_pos d' j hj', getElem!_pos d' i hi'] at h2
    simp at h2
    have h3 : d'.toList[i] = d'[i] := rfl
    have h4 : d'.toList[j] = d'[j] := rfl
    rw [h3, h4] at h1 ⊢
    have := h1.2
    omega
  · have hm := hperm.map (fun x : GP => (x.1, x.2.1))
    refine hm.trans (List.Perm.of_eq ?_)
    rw [hQ, List.map_map]
    refine List.ext_getElem? fun j => ?_
    by_cases hj : j < G.length
    · simp [hj, keyG, endG, List.getD]
    · rw [List.getElem?_eq_none (by simp; omega), List.getElem?_eq_none (by omega)]
end Go.Proofs.YbulkcemcGreat
