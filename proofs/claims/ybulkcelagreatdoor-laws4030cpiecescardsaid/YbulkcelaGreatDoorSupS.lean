/-
  Supply: what it keeps (seat b4030aZD); Bounds.
-/
import Derived.Test.YbulkcelaGreatDoorBndC
namespace Go.Proofs.YbulkcelaGreatDoor
open Go.RowKit Go.MapKept Go.Lib Go.Shelf Go.Maps Go.Sort

/-- The cuts of the kind i. -/
def csOf (x y : Int) (V : Nat → Nat) (S E : Nat → Int) (len : Nat) (ks : List Int) (i : Nat) : List Int := cutsOf x y (bdK V S E len (ks.getD i 0))

section
variable {w : World} {b0 kb kc K len : Nat} {V : Nat → Nat} {S E : Nat → Int} {ks : List Int} {vs bv : Nat → Value} {nv fv keyv : Value} {x y : Int} {cutv cutv' pv pv' : Value} {kcur : Array Value} {CL CL' : List Int} {PL PL' : List (Nat × Nat × Int)} {wr w' : World}

/-- Supply's own memory. -/
structure SC (w : World) (b0 kb K : Nat) (x y : Int) (cutv pv : Value) (kcur : Array Value) (CL : List Int) (PL : List (Nat × Nat × Int)) (wr : World) : Prop where
  os : wr.os = w.os
  tape : wr.tape = w.tape
  output : wr.output = w.output
  size : w.heap.size + 5 ≤ wr.heap.size
  low : ∀ k, k < w.heap.size → k ≠ kb → k ≠ b0 + 2 → wr.heap[k]? = w.heap[k]?
  frm : wr.heap[w.heap.size]? = some (.cells #[.int .u64 0, .int .i64 x, .pointer none] 29 (0, 0))
  til : wr.heap[w.heap.size + 1]? = some (.cells #[.int .u64 0, .int .i64 y, .pointer none] 29 (0, 0))
  res : wr.heap[w.heap.size + 2]? = some (.cells #[.slice none 0 0, .slice none 0 0] 59 (0, 0))
  kds : wr.heap[w.heap.size + 3]? = some (.cells kcur 49 (0, 0))
  kcs : kcur.size = K
  sup : wr.heap[w.heap.size + 4]? = some (.cells #[.slice (some ⟨w.heap.size + 3, 0, none⟩) K K, pv] 59 (0, 0))
  cut : wr.ownsRow (w.heap.size + 5) 29 3 cutv CL.length (CL.flatMap encT)
  pcs : wr.ownsRow (w.heap.size + 5) 64 6 pv PL.length (PL.flatMap encP)

/-- The kinds, bounded. -/
structure Bd (w : World) (b0 kb kc len : Nat) (V : Nat → Nat) (S E : Nat → Int) (ks : List Int) (vs bv : Nat → Value) (nv fv keyv cutv : Value) (wr : World) : Prop where
  kinds : ∃ cur : Array Value, wr.heap[kb]? = some (.cells cur 105 (0, 0)) ∧ ∀ i, i < ks.length → cur[i * 2]? = some (vs i) ∧ cur[i * 2 + 1]? = some (bv i)
  box : wr.heap[b0 + 2]? = some (.cells #[.map (some b0), nv, fv, .map (some (b0 + 1)), .slice (some ⟨kb, 0, none⟩) ks.length kc, .int .i64 ks.length, keyv] 90 (0, 0))
  bnd : ∀ (i : Nat) (k : Int), ks[i]? = some k → wr.ownsRow (w.heap.size + 5) 29 3 (bv i) (bdK V S E len k).length ((bdK V S E len k).flatMap encT)
  apart : ∀ i g, i < ks.length → (bv i).ownBlock = some g → cutv.ownBlock ≠ some g

theorem SC.cut' (h : SC w b0 kb K x y cutv pv kcur CL PL wr) (hg : wr.grownBy w' cutv.ownBlock) (hrow : w'.ownsRow (w.heap.size + 5) 29 3 cutv' CL'.length (CL'.flatMap encT)) : SC w b0 kb K x y cutv' pv kcur CL' PL w' := by
  have hsz := h.size
  have hlow : ∀ k, k < w.heap.size + 5 → w'.heap[k]? = wr.heap[k]? := fun k hk => hg.block k (by omega) (fun e => by have := (own_block h.cut e.symm).1; omega)
  refine ⟨hg.os.trans h.os, hg.tape.trans h.tape, hg.output.trans h.output, by have := hg.size; omega, fun k k1 k2 k3 => (hlow k (by omega)).trans (h.low k k1 k2 k3), (hlow _ (by omega)).trans h.frm, (hlow _ (by omega)).trans h.til, (hlow _ (by omega)).trans h.res, (hlow _ (by omega)).trans h.kds, h.kcs, (hlow _ (by omega)).trans h.sup, hrow, ?_⟩
  exact row_other h.pcs h.cut (by decide) hg

theorem SC.later (h : SC w b0 kb K x y cutv pv kcur CL PL wr) (hb : Below wr.heap.size wr w') : SC w b0 kb K x y cutv pv kcur CL PL w' := h.cut' (grown_below hb) (row_below h.cut hb)

theorem Bd.cut' (h : Bd w b0 kb kc len V S E ks vs bv nv fv keyv cutv wr) {n : Nat} {xs : List Value} (hc : wr.ownsRow (w.heap.size + 5) 29 3 cutv n xs) (hkb : kb < w.heap.size) (hb0 : b0 + 2 < w.heap.size) (hsz : w.heap.size + 5 ≤ wr.heap.size) (hg : wr.grownBy w' cutv.ownBlock) (hlie : cutv'.ownBlock = cutv.ownBlock ∨ ∀ g, cutv'.ownBlock = some g → wr.heap.size ≤ g) : Bd w b0 kb kc len V S E ks vs bv nv fv keyv cutv' w' := by
  have hlow : ∀ k, k < w.heap.size + 5 → w'.heap[k]? = wr.heap[k]? := fun k hk => hg.block k (by omega) (fun e => by have := (own_block hc e.symm).1; omega)
  obtain ⟨cur, k1, k2⟩ := h.kinds
  refine ⟨⟨cur, (hlow kb (by omega)).trans k1, k2⟩, (hlow _ (by omega)).trans h.box, fun i k hi => ?_, fun i g hi hgi => ?_⟩
  · have hr := h.bnd i k hi
    refine owns_far hr fun g hg' => hg.block g ?_ (fun e => h.apart i g (List.getElem?_eq_some_iff.1 hi).1 hg' e.symm)
    obtain ⟨_, cu, hcu⟩ := own_block hr hg'
    exact (Array.getElem?_eq_some_iff.1 hcu).1
  · rcases hlie with e | e
    · rw [e]; exact h.apart i g hi hgi
    · intro e2
      obtain ⟨_, cu, hcu⟩ := own_block (h.bnd i _ (List.getElem?_eq_getElem hi)) hgi
      have := (Array.getElem?_eq_some_iff.1 hcu).1
      have := e g e2
      omega

theorem Bd.later (h : Bd w b0 kb kc len V S E ks vs bv nv fv keyv cutv wr) {n : Nat} {xs : List Value} (hc : wr.ownsRow (w.heap.size + 5) 29 3 cutv n xs) (hkb : kb < w.heap.size) (hb0 : b0 + 2 < w.heap.size) (hsz : w.heap.size + 5 ≤ wr.heap.size) (hb : Below wr.heap.size wr w') : Bd w b0 kb kc len V S E ks vs bv nv fv keyv cutv w' := h.cut' hc hkb hb0 hsz (grown_below hb) (.inl rfl)

theorem SC.piece (h : SC w b0 kb K x y cutv pv kcur CL PL wr) (hg : wr.grownBy w' pv.ownBlock) (hrow : w'.ownsRow (w.heap.size + 5) 64 6 pv' PL'.length (PL'.flatMap encP)) :
    w'.cell? ⟨w.heap.size + 4, 1, none⟩ = some pv ∧ w'.frozen? ⟨w.heap.size + 4, 1, none⟩ = false ∧ SC w b0 kb K x y cutv pv' kcur CL PL' (w'.setCell ⟨w.heap.size + 4, 1, none⟩ pv') := by
  have hsz := h.size
  have hlow : ∀ k, k < w.heap.size + 5 → w'.heap[k]? = wr.heap[k]? := fun k hk => hg.block k (by omega) (fun e => by have := (own_block h.pcs e.symm).1; omega)
  have hs := (hlow (w.heap.size + 4) (by omega)).trans h.sup
  have hset : ∀ k, k ≠ w.heap.size + 4 → (w'.setCell ⟨w.heap.size + 4, 1, none⟩ pv').heap[k]? = w'.heap[k]? := fun k hk => Below.heap_setCell _ _ _ _ hk
  have hl2 : ∀ k, k < w.heap.size + 5 → k ≠ w.heap.size + 4 → (w'.setCell ⟨w.heap.size + 4, 1, none⟩ pv').heap[k]? = wr.heap[k]? := fun k k1 k2 => (hset k k2).trans (hlow k k1)
  refine ⟨Joins.cell_of_block hs 1, Joins.unfrozen_of_block hs 1, hg.os.trans h.os, hg.tape.trans h.tape, hg.output.trans h.output, by have := hg.size; simp [World.setCell]; omega, fun k k1 k2 k3 => (hl2 k (by omega) (by omega)).trans (h.low k k1 k2 k3), (hl2 _ (by omega) (by omega)).trans h.frm, (hl2 _ (by omega) (by omega)).trans h.til, (hl2 _ (by omega) (by omega)).trans h.res, (hl2 _ (by omega) (by omega)).trans h.kds, h.kcs, ?_, ?_, ?_⟩
  · have := Joins.block_setCell (i := 1) hs pv'
    simpa using this
  · exact row_set (row_other h.cut h.pcs (by decide) hg) (by omega)
  · exact row_set hrow (by omega)

theorem Bd.piece (h : Bd w b0 kb kc len V S E ks vs bv nv fv keyv cutv wr) {n : Nat} {xs : List Value} (hc : wr.ownsRow (w.heap.size + 5) 64 6 pv n xs) (hkb : kb < w.heap.size) (hb0 : b0 + 2 < w.heap.size) (hsz : w.heap.size + 5 ≤ wr.heap.size) (hg : wr.grownBy w' pv.ownBlock) (u : Value) : Bd w b0 kb kc len V S E ks vs bv nv fv keyv cutv (w'.setCell ⟨w.heap.size + 4, 1, none⟩ u) := by
  have hlow : ∀ k, k < w.heap.size + 5 → w'.heap[k]? = wr.heap[k]? := fun k hk => hg.block k (by omega) (fun e => by have := (own_block hc e.symm).1; omega)
  have hset : ∀ k, k ≠ w.heap.size + 4 → (w'.setCell ⟨w.heap.size + 4, 1, none⟩ u).heap[k]? = w'.heap[k]? := fun k hk => Below.heap_setCell _ _ _ _ hk
  obtain ⟨cur, k1, k2⟩ := h.kinds
  refine ⟨⟨cur, ((hset kb (by omega)).trans (hlow kb (by omega))).trans k1, k2⟩, ((hset _ (by omega)).trans (hlow _ (by omega))).trans h.box, fun i k hi => ?_, h.apart⟩
  exact row_set (row_other (h.bnd i k hi) hc (by decide) hg) (by omega)

theorem SC.kind (h : SC w b0 kb K x y cutv pv kcur CL PL wr) (i : Nat) (u : Value) : SC w b0 kb K x y cutv pv (kcur.setIfInBounds i u) CL PL (wr.setCell ⟨w.heap.size + 3, i, none⟩ u) := by
  have hset : ∀ k, k ≠ w.heap.size + 3 → (wr.setCell ⟨w.heap.size + 3, i, none⟩ u).heap[k]? = wr.heap[k]? := fun k hk => Below.heap_setCell _ _ _ _ hk
  have hsz := h.size
  exact ⟨h.os, h.tape, h.output, by simp [World.setCell]; omega, fun k k1 k2 k3 => (hset k (by omega)).trans (h.low k k1 k2 k3), (hset _ (by omega)).trans h.frm, (hset _ (by omega)).trans h.til, (hset _ (by omega)).trans h.res, Joins.block_setCell (i := i) h.kds u, by simpa using h.kcs, (hset _ (by omega)).trans h.sup, row_set h.cut (by omega), row_set h.pcs (by omega)⟩

theorem Bd.kind (h : Bd w b0 kb kc len V S E ks vs bv nv fv keyv cutv wr) (hkb : kb < w.heap.size) (hb0 : b0 + 2 < w.heap.size) (i : Nat) (u : Value) : Bd w b0 kb kc len V S E ks vs bv nv fv keyv cutv (wr.setCell ⟨w.heap.size + 3, i, none⟩ u) := by
  have hset : ∀ k, k ≠ w.heap.size + 3 → (wr.setCell ⟨w.heap.size + 3, i, none⟩ u).heap[k]? = wr.heap[k]? := fun k hk => Below.heap_setCell _ _ _ _ hk
  obtain ⟨cur, k1, k2⟩ := h.kinds
  exact ⟨⟨cur, (hset kb (by omega)).trans k1, k2⟩, (hset _ (by omega)).trans h.box, fun j k hj => row_set (h.bnd j k hj) (by omega), h.apart⟩

/-- Behind bound. -/
theorem SC.bound (h : SC w b0 kb K x y cutv pv kcur CL PL wr) (hkb : kb < w.heap.size) (hb0 : b0 + 2 < w.heap.size) (hE : BEnd wr b0 kb kc len V S E ks vs bv nv fv keyv w') : SC w b0 kb K x y cutv pv kcur CL PL w' ∧ Bd w b0 kb kc len V S E ks vs bv nv fv keyv cutv w' := by
  have hsz := h.size
  have hhi : ∀ k, w.heap.size ≤ k → k < wr.heap.size → w'.heap[k]? = wr.heap[k]? := fun k k1 k2 => hE.block k k2 (by omega) (by omega)
  have hrow : ∀ {e size n : Nat} {v : Value} {xs : List Value}, wr.ownsRow (w.heap.size + 5) e size v n xs → w'.ownsRow (w.heap.size + 5) e size v n xs := fun hr => owns_far hr fun g hg => by
    obtain ⟨h1, cu, hcu⟩ := own_block hr hg
    exact hhi g (by omega) (Array.getElem?_eq_some_iff.1 hcu).1
  refine ⟨⟨hE.os.trans h.os, hE.tape.trans h.tape, hE.output.trans h.output, by have := hE.size; omega, fun k k1 k2 k3 => (hE.block k (by omega) k2 k3).trans (h.low k k1 k2 k3), (hhi _ (by omega) (by omega)).trans h.frm, (hhi _ (by omega) (by omega)).trans h.til, (hhi _ (by omega) (by omega)).trans h.res, (hhi _ (by omega) (by omega)).trans h.kds, h.kcs, (hhi _ (by omega) (by omega)).trans h.sup, hrow h.cut, hrow h.pcs⟩, ?_⟩
  obtain ⟨cur, k1, _, k3⟩ := hE.kinds
  refine ⟨⟨cur, k1, k3⟩, hE.box, fun i k hi => row_base (hE.bnd i k hi) hsz, fun i g hi hg e => ?_⟩
  have h1 := (own_block (hE.bnd i _ (List.getElem?_eq_getElem hi)) hg).1
  obtain ⟨_, cu, hcu⟩ := own_block h.cut e
  have := (Array.getElem?_eq_some_iff.1 hcu).1
  omega
end

set_option linter.unusedSimpArgs false in
set_option maxRecDepth 100000 in
theorem bounds23 (b0 len N B kb kc i : Nat) (V : Nat → Nat) (S E : Nat → Int) (ki : Ents) (ks : List Int) (vs : Nat → Value) (nv fv keyv : Value) (w : World) (hKs : Ks w b0 len N V ki ks vs nv fv (.slice (some ⟨kb, 0, none⟩) ks.length kc) keyv) (hi : i < ks.length) (hK : ks.length ≤ 300) (hnd : ks.Nodup) (hr : ∀ x ∈ ks, -1 ≤ x ∧ x ≤ 2) (hlen : len ≤ 300) (hN : N < B) (hB : B ≤ b0) (hC : ∀ i, i < len → Con w N B V S E i) :
    Calls Ybaz.prog 23 #[.pointer (some ⟨b0 + 2, 0, none⟩), .int .i64 (i : Nat)] w fun e w' => ∃ bv, e = .returned (bv i) ∧ BEnd w b0 kb kc len V S E ks vs bv nv fv keyv w' := by
  have hb := bound37 b0 len N B kb kc V S E ki ks vs nv fv keyv w hKs (by omega) hK hnd hr hlen hN hB hC
  have b5 : w.cell? ⟨b0 + 2, 5, none⟩ = some (.int .i64 0) := Joins.cell_of_block hKs.box 5
  have hi' : (i : Int) < (ks.length : Int) := by omega
  clear hKs hnd hr hC
  go_enter Ybaz.func23, Ybaz.ntmps23
  go_wp2_with (go_at_call 37; refine hb.mono ?_; rintro e w1 ⟨rfl, bv, hE⟩; refine Veil.off ?_)
  unfold Veil
  clear hb b5
  have c4 : w1.cell? ⟨b0 + 2, 4, none⟩ = some (.slice (some ⟨kb, 0, none⟩) ks.length kc) := Joins.cell_of_block hE.box 4
  obtain ⟨cur, k1, k2, k3⟩ := hE.kinds
  have ck : w1.cell? ⟨kb, i * 2 + 1, none⟩ = some (bv i) := (Joins.cell_of_block k1 _).trans (k3 i hi).2
  obtain ⟨p, c, hv⟩ := own_form (hE.bnd i _ (List.getElem?_eq_getElem hi))
  rw [hv] at ck
  have hAE : Aside (BEnd w b0 kb kc len V S E ks vs bv nv fv keyv w1) := hE
  clear hE k1 k2 k3
  go_wp2
  go_ret
  exact ⟨bv, by rw [hv]; rfl, hAE.out⟩

set_option linter.unusedSimpArgs false in
set_option maxRecDepth 100000 in
theorem bounds23_old (kb kc n rb i : Nat) (p : Option Addr) (m c : Nat) (w : World) (h4 : w.cell? ⟨rb, 4, none⟩ = some (.slice (some ⟨kb, 0, none⟩) n kc)) (h5 : w.cell? ⟨rb, 5, none⟩ = some (.int .i64 (n : Nat))) (hi : i < n) (hv : w.cell? ⟨kb, i * 2 + 1, none⟩ = some (.slice p m c)) :
    Calls Ybaz.prog 23 #[.pointer (some ⟨rb, 0, none⟩), .int .i64 (i : Nat)] w fun e w' => e = .returned (.slice p m c) ∧ w' = w := by
  have hi' : (i : Int) < (n : Int) := by omega
  go_enter Ybaz.func23, Ybaz.ntmps23
  go_wp2
  go_ret
  exact ⟨rfl, rfl⟩
end Go.Proofs.YbulkcelaGreatDoor
