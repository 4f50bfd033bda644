/-
  FromHistory, walked (seat b4030aZD).
-/
import Derived.Test.YbulkcelaGreatDoorFromR
namespace Go.Proofs.YbulkcelaGreatDoor
open Go.RowKit Go.MapKept Go.Lib Go.Shelf Go.Maps

theorem KEnd.ks {W w' : World} {N len : Nat} {V : Nat → Nat} (h : KEnd W N V len w') : ∃ nv fv, Ks w' W.heap.size len N V (idxEnts []) [] (fun _ => .map none) nv fv (.slice none 0 0) (.slice none 0 0) := by
  obtain ⟨nv, fv, h1, h2, h3, _⟩ := h.box
  exact ⟨nv, fv, h1, h.acc, h.idx, h3, h2, World.ownsRow_nil _ _ _ _, fun j k hj => by cases hj⟩

/-- Between two rows of the history. -/
structure HSt (w : World) (fb b0 len N : Nat) (sp : Int) (V : Nat → Nat) (key C : Nat → Int) (nv fv : Value) (i : Nat) (wr : World) : Prop where
  below : Below w.heap.size w wr
  st : ∃ vs kv keyv n xs cv, Ks wr b0 len N V (idxEnts (hist key C i).1) (hist key C i).1 vs nv fv kv keyv ∧ wr.ownsRow (b0 + 3) 5 1 keyv n xs ∧ n ≤ 10 ∧ wr.heap[fb]? = some (.cells #[.pointer (some ⟨b0 + 2, 0, none⟩), cv, .float .f64 (fi sp)] 73 (0, 0)) ∧
    wr.ownsRow (b0 + 3) 53 1 cv (hist key C i).1.length ((hist key C i).2.map fun x => .float .f64 (fi x))

theorem row_one {w w' : World} {base e size n b t : Nat} {v : Value} {xs : List Value} {cs : Array Value} {f : Nat × Nat} (h : w.ownsRow base e size v n xs) (hb : w.heap[b]? = some (.cells cs t f)) (ht : t ≠ e) (hk : ∀ k, k < w.heap.size → k ≠ b → w'.heap[k]? = w.heap[k]?) : w'.ownsRow base e size v n xs := by
  obtain ⟨h0, h1⟩ := h
  refine ⟨h0, ?_⟩
  rcases h1 with h1 | ⟨g, cap, cur, e1, e2, e3, e4⟩
  · exact .inl h1
  · refine .inr ⟨g, cap, cur, e1, e2, (hk g (Array.getElem?_eq_some_iff.1 e3).1 fun hh => ?_).trans e3, e4⟩
    subst hh
    rw [hb] at e3
    injection e3 with e3
    injection e3 with _ e5 _
    exact ht e5

theorem map_one {w w' : World} {b t r : Nat} {cs : Array Value} {f : Nat × Nat} {l : Ents} (hM : MapL w r l) (hb : w.heap[b]? = some (.cells cs t f)) (hk : ∀ k, k < w.heap.size → k ≠ b → w'.heap[k]? = w.heap[k]?) : MapL w' r l :=
  hM.block (hk r hM.lt fun e => by subst e; exact map_no_cells hM _ _ _ hb)

theorem Ks.one {w w' : World} {b0 len N b t : Nat} {V : Nat → Nat} {ki : Ents} {ks : List Int} {vs : Nat → Value} {nv fv kv keyv : Value} {cs : Array Value} {f : Nat × Nat} (h : Ks w b0 len N V ki ks vs nv fv kv keyv) (hb : w.heap[b]? = some (.cells cs t f)) (ht : t ≠ 9 ∧ t ≠ 92 ∧ t ≠ 105 ∧ t ≠ 90) (hk : ∀ k, k < w.heap.size → k ≠ b → w'.heap[k]? = w.heap[k]?) : Ks w' b0 len N V ki ks vs nv fv kv keyv := by
  refine ⟨(hk _ h.lo fun e => ?_).trans h.box, ?_, map_one h.idx hb hk, row_one h.names hb ht.1 hk, row_one h.flown hb ht.2.1 hk, row_one h.kinds hb ht.2.2.1 hk, fun j k hj => (h.vis j k hj).kept fun r l _ hM => map_one hM hb hk⟩
  · subst e
    rw [h.box] at hb
    injection hb with hb
    injection hb with _ e5 _
    exact ht.2.2.2 e5.symm
  · rcases h.acc with ⟨h1, h2⟩ | ⟨h1, mb, vs', h2, h3, h4, h5, h6⟩
    · exact .inl ⟨h1, map_one h2 hb hk⟩
    · exact .inr ⟨h1, mb, vs', h2, h3, map_one h4 hb hk, map_one h5 hb hk, h6⟩

theorem grown_set (w : World) (b o : Nat) (v : Value) : w.grownBy (w.setCell ⟨b, o, none⟩ v) (some b) :=
  ⟨rfl, rfl, rfl, by simp [World.setCell], fun k _ hne => Below.heap_setCell _ _ _ _ (fun e => hne (by rw [e]))⟩

/-- A count is turned. -/
theorem bump {w : World} {b0 len N fb cb n cc j kn : Nat} {V : Nat → Nat} {ki : Ents} {ks : List Int} {vs : Nat → Value} {nv fv kv keyv p0 spv : Value} {kxs : List Value} {ds : List Int} (y : Int) (hKs : Ks w b0 len N V ki ks vs nv fv kv keyv) (hkey : w.ownsRow (b0 + 3) 5 1 keyv kn kxs)
    (hfb : w.heap[fb]? = some (.cells #[p0, .slice (some ⟨cb, 0, none⟩) n cc, spv] 73 (0, 0))) (hc : w.ownsRow (b0 + 3) 53 1 (.slice (some ⟨cb, 0, none⟩) n cc) n (ds.map fun x => .float .f64 (fi x))) :
    Ks (w.drew.setCell ⟨cb, j, none⟩ (.float .f64 (fi y))) b0 len N V ki ks vs nv fv kv keyv ∧ (w.drew.setCell ⟨cb, j, none⟩ (.float .f64 (fi y))).ownsRow (b0 + 3) 5 1 keyv kn kxs ∧ (w.drew.setCell ⟨cb, j, none⟩ (.float .f64 (fi y))).heap[fb]? = some (.cells #[p0, .slice (some ⟨cb, 0, none⟩) n cc, spv] 73 (0, 0)) ∧
      (w.drew.setCell ⟨cb, j, none⟩ (.float .f64 (fi y))).ownsRow (b0 + 3) 53 1 (.slice (some ⟨cb, 0, none⟩) n cc) n ((ds.set j y).map fun x => .float .f64 (fi x)) ∧ Below (b0 + 3) w (w.drew.setCell ⟨cb, j, none⟩ (.float .f64 (fi y))) := by
  have hbd : Below w.heap.size w w.drew := (Below.refl _ _).drew
  have hg : w.drew.grownBy (w.drew.setCell ⟨cb, j, none⟩ (.float .f64 (fi y))) (Value.slice (some ⟨cb, 0, none⟩) n cc).ownBlock := grown_set w.drew cb j _
  obtain ⟨hl, ⟨e, _⟩ | ⟨g, cap, cur, e, hb, hh, h1, h2, h3, h4⟩⟩ := hc
  · cases e
  · injection e with e1 e2 e3
    injection e1 with e1
    injection e1 with e1 _ _
    subst e1 e3
    have hc' : w.drew.ownsRow (b0 + 3) 53 1 (.slice (some ⟨cb, 0, none⟩) n cc) n (ds.map fun x => .float .f64 (fi x)) := ⟨hl, .inr ⟨cb, cc, cur, rfl, hb, hh, h1, h2, h3, h4⟩⟩
    have hne : fb ≠ cb := fun e => by subst e; rw [hfb] at hh; cases hh
    refine ⟨(hKs.later hbd).grown hc' (by decide) hg, row_other (row_below hkey hbd) hc' (by decide) hg, (Below.heap_setCell _ _ _ _ hne).trans hfb, ⟨by simpa using hl, .inr ⟨cb, cc, cur.setIfInBounds j (.float .f64 (fi y)), rfl, hb, Joins.block_setCell (i := j) (w := w.drew) hh _, h1, h2, by simpa using h3, ?_⟩⟩, (((Below.refl _ _).drew)).setCell (by show b0 + 3 ≤ cb; exact hb) _⟩
    rw [List.map_set, ← h4, Array.toList_setIfInBounds, Nat.mul_one, List.take_set]

theorem AskIn.isMap {w : World} {b0 len : Nat} {V : Nat → Nat} {v : Value} {k : Int} {kc : Nat} (h : AskIn w b0 len V v k kc) : ∃ mp, v = .map mp := by cases h <;> exact ⟨_, rfl⟩

theorem Ybaz.info53 : (Ybaz.prog.info? 53).map (fun i => (i.zero, i.size, i.bytes)) = some (some (.float .f64 0), 1, 8) := by kernel_rfl

set_option linter.unusedSimpArgs false in
set_option maxRecDepth 100000 in
set_option maxHeartbeats 1000000 in
theorem from8 (hb n hc N len cc : Nat) (V : Nat → Nat) (key C S E : Nat → Int) (x sp : Int) (w : World) (hn : n ≤ 300) (hlen : len ≤ 300) (hx0 : 0 ≤ x) (hx1 : x ≤ 1000000) (hsp0 : 0 < sp) (hsp1 : sp ≤ 1000000) (hhb : hb < w.heap.size) (hN : N < w.heap.size)
    (hC : ∀ i, i < len → Con w N w.heap.size V S E i) (hV : ∀ i, i < len → V i < 3) (hkey : ∀ i, -1 ≤ key i ∧ key i ≤ 2) (hCs : ∀ i, (C i).natAbs ≤ 2147483648) (hrow : ∀ i, i < n → HRow w hb (w.heap.size + 2) len V key C i) :
    Calls Ybaz.prog 8 #[.slice (some ⟨hb, 0, none⟩) n hc, tv x, tv (x + sp), .slice (some ⟨N, 0, none⟩) len cc] w fun e w' => ∃ fb nv fv, e = .returned (.pointer (some ⟨fb, 0, none⟩)) ∧ w.heap.size ≤ fb ∧ HSt w fb (w.heap.size + 2) len N sp V key C nv fv n w' := by
  have hA : Aside ((∀ i, i < len → Con w N w.heap.size V S E i) ∧ (∀ i, i < len → V i < 3) ∧ (∀ i, -1 ≤ key i ∧ key i ≤ 2) ∧ (∀ i, (C i).natAbs ≤ 2147483648) ∧ (∀ i, i < n → HRow w hb (w.heap.size + 2) len V key C i)) := ⟨hC, hV, hkey, hCs, hrow⟩
  clear hC hV hkey hCs hrow
  obtain ⟨W, hW⟩ : ∃ W, (w.alloc (.cells #[.int .u64 0, .int .i64 x, .pointer none] 29)).alloc (.cells #[.int .u64 0, .int .i64 (x + sp), .pointer none] 29) = W := ⟨_, rfl⟩
  have hWl : Lays w W := by rw [← hW]; exact lays_two _ _ _
  have hWs : W.heap.size = w.heap.size + 2 := by rw [← hW]; simp
  have hx1 : W.heap[w.heap.size]? = some (.cells #[.int .u64 0, .int .i64 x, .pointer none] 29 (0, 0)) := by rw [← hW, alloc_at, if_neg (by simp), alloc_at, if_pos rfl]
  have hx2 : W.heap[w.heap.size + 1]? = some (.cells #[.int .u64 0, .int .i64 (x + sp), .pointer none] 29 (0, 0)) := by rw [← hW, alloc_at, if_pos (by simp)]
  have hnk : Calls Ybaz.prog 17 #[.slice (some ⟨N, 0, none⟩) len cc] W.drew fun e w' => e = .returned (.pointer (some ⟨W.drew.heap.size + 1 + 1, 0, none⟩)) ∧ KEnd W.drew N V len w' :=
    kinds_walk keysSorted N w.heap.size len cc V S E (by omega) W.drew hN (by show _ ≤ W.heap.size; omega) (fun i hi => (hA.out.1 i hi).below hN (hWl.below.drew))
  have hsec := fun W' => seconds18 x (x + sp) (by omega) (by omega) (by omega) (by omega) W'
  rw [show x + sp - x = sp by omega] at hsec
  have hSof : ∀ w', Below W.heap.size W w' → w'.cell? ⟨w.heap.size, 0, none⟩ = some (.int .u64 0) ∧ w'.cell? ⟨w.heap.size, 1, none⟩ = some (.int .i64 x) ∧ w'.cell? ⟨w.heap.size, 2, none⟩ = some (.pointer none) ∧ w'.cell? ⟨w.heap.size + 1, 0, none⟩ = some (.int .u64 0) ∧ w'.cell? ⟨w.heap.size + 1, 1, none⟩ = some (.int .i64 (x + sp)) ∧ w'.cell? ⟨w.heap.size + 1, 2, none⟩ = some (.pointer none) := fun w' h =>
    ⟨(h.cell (p := ⟨w.heap.size, 0, none⟩) (by show w.heap.size < _; omega)).trans (Joins.cell_of_block hx1 0), (h.cell (p := ⟨w.heap.size, 1, none⟩) (by show w.heap.size < _; omega)).trans (Joins.cell_of_block hx1 1), (h.cell (p := ⟨w.heap.size, 2, none⟩) (by show w.heap.size < _; omega)).trans (Joins.cell_of_block hx1 2),
     (h.cell (p := ⟨w.heap.size + 1, 0, none⟩) (by show w.heap.size + 1 < _; omega)).trans (Joins.cell_of_block hx2 0), (h.cell (p := ⟨w.heap.size + 1, 1, none⟩) (by show w.heap.size + 1 < _; omega)).trans (Joins.cell_of_block hx2 1), (h.cell (p := ⟨w.heap.size + 1, 2, none⟩) (by show w.heap.size + 1 < _; omega)).trans (Joins.cell_of_block hx2 2)⟩
  have hAW : Aside (Lays w W ∧ W.heap.size = w.heap.size + 2) := ⟨hWl, hWs⟩
  go_enter Ybaz.func8, Ybaz.ntmps8
  go_wp2
  clear hW hWl hx1 hx2
  refine wp_normal ?_
  go_region_held (fun w' => w'.cell? ⟨w.heap.size, 0, none⟩ = some (.int .u64 0) ∧ w'.cell? ⟨w.heap.size, 1, none⟩ = some (.int .i64 x) ∧ w'.cell? ⟨w.heap.size, 2, none⟩ = some (.pointer none) ∧ w'.cell? ⟨w.heap.size + 1, 0, none⟩ = some (.int .u64 0) ∧ w'.cell? ⟨w.heap.size + 1, 1, none⟩ = some (.int .i64 (x + sp)) ∧ w'.cell? ⟨w.heap.size + 1, 2, none⟩ = some (.pointer none))
    (first | exact hSof _ ((Below.refl _ _).drew) | exact hSof _ (((Below.refl _ _).drew).trans hk1.below) | exact hSof _ ((((Below.refl _ _).drew).trans hk1.below).trans (hl2.below.mono (by have := hk1.below.size; exact this))) | exact hSof _ (((((Below.refl _ _).drew).trans hk1.below).trans (hl2.below.mono (by have := hk1.below.size; exact this))).alloc (by have := hk1.below.size; have := hl2.below.size; exact Nat.le_trans ‹_› ‹_›) _))
    (first
      | (go_at_call 17; refine hnk.mono ?_; rintro e w1 ⟨rfl, hk1⟩)
      | (go_at_call 18; refine (hsec _).mono ?_; rintro e w2 ⟨rfl, hl2⟩))
  show Exit.then _ _ Exit.normal _ _
  rename_i hHeld
  clear hHeld
  obtain ⟨b0, hb0⟩ : ∃ b0, w.heap.size + 2 = b0 := ⟨_, rfl⟩
  have hbW : Below w.heap.size w W := hAW.out.1.below
  have hk1b := hk1.below
  have hs1 := hk1b.size
  have hs2 := hl2.below.size
  have hWd : W.drew.heap.size = b0 := by show W.heap.size = b0; omega
  obtain ⟨nv, fv, hKs1⟩ := hk1.ks
  rw [hWd] at hKs1 hs1 hk1b
  have hb2 : Below w.heap.size w w2 := ((hbW.trans ((Below.refl _ _).drew)).trans (hk1b.mono (by omega))).trans (hl2.below.mono (by omega))
  rw [show w.heap.size + 2 + 1 + 1 = b0 + 2 by omega]
  obtain ⟨fb, hfb⟩ : ∃ fb, w2.heap.size = fb := ⟨_, rfl⟩
  rw [hfb]
  have hst0 : HSt w fb b0 len N sp V key C nv fv 0 (w2.alloc (.cells #[.pointer (some ⟨b0 + 2, 0, none⟩), .slice none 0 0, .float .f64 (fi sp)] 73)) := by
    have hba : Below w2.heap.size w2 (w2.alloc (.cells #[.pointer (some ⟨b0 + 2, 0, none⟩), .slice none 0 0, .float .f64 (fi sp)] 73)) := (Below.refl _ _).alloc (Nat.le_refl _) _
    refine ⟨hb2.trans (hba.mono (by omega)), _, _, _, 0, [], .slice none 0 0, (hKs1.later hl2.below).later hba, World.ownsRow_nil _ _ _ _, by omega, by rw [alloc_at, if_pos hfb.symm], World.ownsRow_nil _ _ _ _⟩
  have hA0 : Aside (HSt w fb b0 len N sp V key C nv fv 0 (w2.alloc (.cells #[.pointer (some ⟨b0 + 2, 0, none⟩), .slice none 0 0, .float .f64 (fi sp)] 73))) := hst0
  have hfbl : w.heap.size ≤ fb := by omega
  clear hst0 hKs1 hk1 hk1b hl2 hnk hsec hSof hbW hb2 hs1 hs2 hWd
  have hAb : Aside (w.heap.size + 2 = b0 ∧ w2.heap.size = fb) := ⟨hb0, hfb⟩
  go_wp2
  rename_i K1 hK1
  have hK1' : Aside (∀ (a : Act) (w : World), _ → K1 a w) := hK1
  clear hK1
  go_loopg [22] (n + 1) (fun q v22 wr => ∃ i : Nat, v22 = .int .i64 i ∧ i ≤ n ∧ n - i < q ∧ HSt w fb b0 len N sp V key C nv fv i wr)
  case atStart => exact ⟨0, rfl, Nat.zero_le _, by omega, hA0.out⟩
  case round =>
    obtain ⟨i, rfl, hin, hq, hst⟩ := hrel
    by_cases hlt : i < n
    · obtain ⟨hbel, vs, kv, keyv, kn, kxs, cv, hKs, hkey, hkn, hfbx, hcnt⟩ := hst
      obtain ⟨c0, c1, c2, c3, vv, kc, c4, hask⟩ := hA.out.2.2.2.2 i hlt
      rw [hAb.out.1] at hask
      have hhb' : hb < w.heap.size := hhb
      have d0 := (hbel.cell (p := ⟨hb, i * 5, none⟩) hhb').trans c0
      have d1 := (hbel.cell (p := ⟨hb, i * 5 + 1, none⟩) hhb').trans c1
      have d2 := (hbel.cell (p := ⟨hb, i * 5 + 2, none⟩) hhb').trans c2
      have d3 := (hbel.cell (p := ⟨hb, i * 5 + 3, none⟩) hhb').trans c3
      have d4 := (hbel.cell (p := ⟨hb, i * 5 + 4, none⟩) hhb').trans c4
      obtain ⟨mp, hvm⟩ := hask.isMap
      subst hvm
      have hlt' : (i : Int) < (n : Int) := by omega
      have hb0l := hKs.lo
      have hfl : fb < wr.heap.size := (Array.getElem?_eq_some_iff.1 hfbx).1
      -- the row's copy
      obtain ⟨wR, hwR⟩ : ∃ wR, wr.alloc (.cells #[.int .u64 0, .int .i64 0, .pointer none, .int .i64 (C i), .map mp] 51) = wR := ⟨_, rfl⟩
      have hbR : Below wr.heap.size wr wR := by rw [← hwR]; exact (Below.refl _ _).alloc (Nat.le_refl _) _
      have hRx : wR.heap[wr.heap.size]? = some (.cells #[.int .u64 0, .int .i64 0, .pointer none, .int .i64 (C i), .map mp] 51 (0, 0)) := by rw [← hwR, alloc_at, if_pos rfl]
      have hRs : wR.heap.size = wr.heap.size + 1 := by rw [← hwR]; simp
      have r0 : wR.cell? ⟨wr.heap.size, 0, none⟩ = some (.int .u64 0) := Joins.cell_of_block hRx 0
      have r1 : wR.cell? ⟨wr.heap.size, 1, none⟩ = some (.int .i64 0) := Joins.cell_of_block hRx 1
      have r2 : wR.cell? ⟨wr.heap.size, 2, none⟩ = some (.pointer none) := Joins.cell_of_block hRx 2
      have hiz := isZero19 0 wR
      have hAst : Aside (Ks wr b0 len N V (idxEnts (hist key C i).1) (hist key C i).1 vs nv fv kv keyv ∧ wr.ownsRow (b0 + 3) 5 1 keyv kn kxs ∧ kn ≤ 10 ∧ wr.heap[fb]? = some (.cells #[.pointer (some ⟨b0 + 2, 0, none⟩), cv, .float .f64 (fi sp)] 73 (0, 0)) ∧ wr.ownsRow (b0 + 3) 53 1 cv (hist key C i).1.length ((hist key C i).2.map fun x => .float .f64 (fi x)) ∧ AskIn w b0 len V (.map mp) (key i) kc ∧ Below w.heap.size w wr) := ⟨hKs, hkey, hkn, hfbx, hcnt, hask, hbel⟩
      have hAR : Aside (Below wr.heap.size wr wR ∧ wR.heap[wr.heap.size]? = some (.cells #[.int .u64 0, .int .i64 0, .pointer none, .int .i64 (C i), .map mp] 51 (0, 0)) ∧ wR.heap.size = wr.heap.size + 1) := ⟨hbR, hRx, hRs⟩
      clear hKs hkey hkn hfbx hcnt hask hbel c0 c1 c2 c3 c4 hbR hRx hRs
      go_wp2_with (go_at_call 19; refine hiz.mono ?_; rintro e w3 ⟨rfl, hl3⟩; refine Veil.off ?_)
      unfold Veil
      clear hiz d0 d1 d2 d3 d4 hwR r0 r1 r2
      obtain ⟨hKs, hkey, hkn, hfbx, hcnt, hask, hbel⟩ := hAst.out
      obtain ⟨hbR, hRx, hRs⟩ := hAR.out
      have hb3 : Below wr.heap.size wr w3 := hbR.trans (hl3.below.mono (by omega))
      have hKs3 := hKs.later hb3
      have hkey3 := row_below hkey hb3
      have hcnt3 := row_below hcnt hb3
      have hfbx3 := (hb3.block fb hfl).trans hfbx
      have hRx3 := (hl3.below.block wr.heap.size (by omega)).trans hRx
      obtain ⟨cp, ccap, hcvf⟩ := own_form hcnt3
      subst hcvf
      have hask3 : AskIn w3 b0 len V (.map mp) (key i) kc := hask.kept' fun r l _ hM => hM.below (hbel.trans (hb3.mono hbel.size)) hM.lt
      have hs3 := hb3.size
      have hks : (hist key C i).1.length ≤ 1000 := by have := hist_le key C i; omega
      have hof := of21 b0 len N kn kc V (hist key C i).1 vs nv fv kv keyv (.map mp) kxs (key i) w3.drew (hKs3.later ((Below.refl _ _).drew)) hkey3 hkn (hist_mem key C (fun x => -1 ≤ x ∧ x ≤ 2) hA.out.2.2.1 i) hA.out.2.1 hks (hask3.kept' fun r l _ hM => hM)
      have f30 : w3.cell? ⟨fb, 0, none⟩ = some (.pointer (some ⟨b0 + 2, 0, none⟩)) := Joins.cell_of_block hfbx3 0
      have r34 : w3.cell? ⟨wr.heap.size, 4, none⟩ = some (.map mp) := Joins.cell_of_block hRx3 4
      have hidx : ∀ c t f, w3.drew.heap[b0 + 1]? ≠ some (.cells c t f) := map_no_cells (w := w3.drew) hKs3.idx
      have hAk : Aside (∀ w4, Kept (b0 + 1) w3.drew w4 → w4.heap[fb]? = some (.cells #[.pointer (some ⟨b0 + 2, 0, none⟩), .slice cp (hist key C i).1.length ccap, .float .f64 (fi sp)] 73 (0, 0)) ∧ w4.heap[wr.heap.size]? = some (.cells #[.int .u64 0, .int .i64 0, .pointer none, .int .i64 (C i), .map mp] 51 (0, 0)) ∧ w4.ownsRow (b0 + 3) 53 1 (.slice cp (hist key C i).1.length ccap) (hist key C i).1.length ((hist key C i).2.map fun x => .float .f64 (fi x))) := fun w4 hk =>
        ⟨hk.block fb _ hfbx3 (fun e => hidx _ _ _ (by rw [← e]; exact hfbx3)) (fun c t fz hc => by cases hc; decide), hk.block wr.heap.size _ hRx3 (fun e => hidx _ _ _ (by rw [← e]; exact hRx3)) (fun c t fz hc => by cases hc; decide), hk.row (by decide) (w := w3.drew) hcnt3 hidx⟩
      have hSk : ∀ w4, Kept (b0 + 1) w3.drew w4 → w4.cell? ⟨fb, 0, none⟩ = some (.pointer (some ⟨b0 + 2, 0, none⟩)) ∧ w4.cell? ⟨wr.heap.size, 4, none⟩ = some (.map mp) := fun w4 hk => ⟨Joins.cell_of_block (hAk.out w4 hk).1 0, Joins.cell_of_block (hAk.out w4 hk).2.1 4⟩
      have hAb3 : Aside (Below w.heap.size w w3) := hbel.trans (hb3.mono hbel.size)
      clear hKs hkey hfbx hcnt hask hbel hbR hRx hRs hb3 hKs3 hkey3 hcnt3 hfbx3 hRx3 hask3 hidx hl3
      go_wp2
      refine wp_normal ?_
      go_region_held (fun w' => w'.cell? ⟨fb, 0, none⟩ = some (.pointer (some ⟨b0 + 2, 0, none⟩)) ∧ w'.cell? ⟨wr.heap.size, 4, none⟩ = some (.map mp))
        (first | exact ⟨f30, r34⟩ | exact hSk _ hE.1)
        (first | (go_at_call 21; refine hof.mono ?_; rintro e w4 ⟨j, rfl, hE⟩))
      show Exit.then _ _ Exit.normal _ _
      rename_i hHeld
      clear hHeld
      obtain ⟨hkept, ks', vs', kv', keyv', kn', kxs', hKs4, hkey4, hkn4, hjk, hks'⟩ := hE
      obtain ⟨hfb4, hR4, hcnt4⟩ := hAk.out w4 hkept
      have f41 : w4.cell? ⟨fb, 1, none⟩ = some (.slice cp (hist key C i).1.length ccap) := Joins.cell_of_block hfb4 1
      have hwb : w.heap.size ≤ b0 + 1 := by have h9 := hAb.out.1; omega
      have hb4 : Below w.heap.size w w4 := (hAb3.out.drew).trans (hkept.below.mono hwb)
      clear hof hSk f30 r34
      by_cases hin : key i ∈ (hist key C i).1
      · rw [if_pos hin] at hks'
        subst hks'
        have hj : j < (hist key C i).1.length := (List.getElem?_eq_some_iff.1 hjk).1
        have hlen2 := hist_len key C i
        obtain ⟨cb, ccap', hform⟩ := Joins.ownsRow_form hcnt4 (by omega)
        injection hform with hf1 hf2 hf3
        subst hf1 hf3
        clear hf2
        obtain ⟨x, hxj⟩ : ∃ x, (hist key C i).2.getD j 0 = x := ⟨_, rfl⟩
        have hcell : w4.cell? ⟨cb, j, none⟩ = some (.float .f64 (fi x)) := by
          rw [hcnt4.cellAt j (by omega), List.getElem?_map, List.getElem?_eq_getElem (by omega), ← hxj]
          simp [List.getD, show j < (hist key C i).2.length by omega]
        have hfz : w4.frozen? ⟨cb, j, none⟩ = false := by
          rcases hcnt4.2 with ⟨e, _⟩ | ⟨g, cap, cur, e, _, hh, _⟩
          · cases e
          · injection e with e1 _ _
            injection e1 with e1
            injection e1 with e1 _ _
            subst e1
            exact Joins.unfrozen_of_block hh j
        have hxs : x.natAbs ≤ i * 2147483648 := by
          rw [← hxj]
          exact hist_small key C 2147483648 hA.out.2.2.2.1 i _ (by simp [List.getD, show j < (hist key C i).2.length by omega])
        have hCi := hA.out.2.2.2.1 i
        have hidxo : (hist key C i).1.idxOf (key i) = j := by
          obtain ⟨hj', e⟩ := List.getElem?_eq_some_iff.1 hjk
          rw [← e]
          exact (hist_nodup key C i).idxOf_getElem j hj'
        have hnext : hist key C (i + 1) = ((hist key C i).1, (hist key C i).2.set j (x + C i)) := by
          show histStep (hist key C i) (key i, C i) = _
          unfold histStep
          rw [if_pos hin, hidxo, hxj]
        obtain ⟨B1, B2, B3, B4, B5⟩ := bump (j := j) (y := x + C i) hKs4 hkey4 hfb4 hcnt4
        have hend : HSt w fb b0 len N sp V key C nv fv (i + 1) (w4.drew.setCell ⟨cb, j, none⟩ (.float .f64 (fi (x + C i)))) := by
          refine ⟨hb4.trans (B5.mono (by omega)), vs', kv', keyv', kn', kxs', .slice (some ⟨cb, 0, none⟩) (hist key C i).1.length ccap, ?_⟩
          rw [hnext]
          exact ⟨B1, B2, hkn4, B3, B4⟩
        have hAe : Aside (HSt w fb b0 len N sp V key C nv fv (i + 1) (w4.drew.setCell ⟨cb, j, none⟩ (.float .f64 (fi (x + C i))))) := hend
        have r43 : w4.cell? ⟨wr.heap.size, 3, none⟩ = some (.int .i64 (C i)) := Joins.cell_of_block hR4 3
        have hjne : ((j : Int) == ((hist key C i).1.length : Int)) = false := beq_eq_false_iff_ne.2 (by omega)
        have hx51 : x.natAbs < 2251799813685248 := by
          have : i * 2147483648 ≤ 300 * 2147483648 := Nat.mul_le_mul_right _ (by omega)
          omega
        clear hend B1 B2 B3 B4 B5 hnext hidxo hKs4 hkey4 hcnt4 hkept hjk hR4 hfb4 hb4 hxj hxs
        generalize (hist key C i).1.length = L at *
        go_wp2
        refine from_r9 fb cb wr.heap.size L ccap j x (C i) w4 f41 hj hcell hfz r43 hx51 (by omega) _ _ _ _ _ _ _ _ _ _ _ _ _ _ _ _ _ _ _ _ _ _ _ _ _ _ _ _ _ _ _ _ _ _ _ _ _ _ _ _ _ _ _ _ _ _ _ _ _ _ _ _ _ _ _ _ _ _ _ _ _ _ _ _ _ _ _ _ _ _ _ _ _ _ _ _ _ _ ?_
        intros
        go_wp2
        go_roundg (n - i)
        case measure => omega
        case rel => exact ⟨i + 1, by go_num, by omega, by omega, hAe.out⟩
      · rw [if_neg hin] at hks'
        subst hks'
        have hj : j = (hist key C i).1.length := by
          by_cases hjl : j < (hist key C i).1.length
          · rw [List.getElem?_append_left hjl] at hjk
            exact absurd (List.mem_of_getElem? hjk) hin
          · have := (List.getElem?_eq_some_iff.1 hjk).1
            simp at this
            omega
        subst hj
        have hlen2 := hist_len key C i
        have hCi := hA.out.2.2.2.1 i
        obtain ⟨L, hL⟩ : ∃ L, (hist key C i).1.length = L := ⟨_, rfl⟩
        have hnext : hist key C (i + 1) = ((hist key C i).1 ++ [key i], (hist key C i).2 ++ [C i]) := by
          show histStep (hist key C i) (key i, C i) = _
          unfold histStep
          rw [if_neg hin]
        have hnx1 : (hist key C (i + 1)).1.length = L + 1 := by rw [hnext]; simp [hL]
        obtain ⟨i0, hi, hz0, hz1, hz2⟩ := info_parts Ybaz.info53
        have Hi : Aside (Ybaz.prog.info? 53 = some i0 ∧ i0.zero = some (.float .f64 0) ∧ i0.size = 1 ∧ i0.bytes = 8) := ⟨hi, hz0, hz1, hz2⟩
        clear hi hz0 hz1 hz2
        have hfz1 : w4.frozen? ⟨fb, 1, none⟩ = false := Joins.unfrozen_of_block hfb4 1
        have hfl4 : fb < w4.heap.size := (Array.getElem?_eq_some_iff.1 hfb4).1
        have hRl4 : wr.heap.size < w4.heap.size := (Array.getElem?_eq_some_iff.1 hR4).1
        have hA4 : Aside (Ks w4 b0 len N V (idxEnts ((hist key C i).1 ++ [key i])) ((hist key C i).1 ++ [key i]) vs' nv fv kv' keyv' ∧ w4.ownsRow (b0 + 3) 5 1 keyv' kn' kxs' ∧ w4.heap[fb]? = some (.cells #[.pointer (some ⟨b0 + 2, 0, none⟩), .slice cp (hist key C i).1.length ccap, .float .f64 (fi sp)] 73 (0, 0)) ∧ w4.heap[wr.heap.size]? = some (.cells #[.int .u64 0, .int .i64 0, .pointer none, .int .i64 (C i), .map mp] 51 (0, 0)) ∧ w4.ownsRow (b0 + 3) 53 1 (.slice cp (hist key C i).1.length ccap) (hist key C i).1.length ((hist key C i).2.map fun x => .float .f64 (fi x)) ∧ Below w.heap.size w w4) := ⟨hKs4, hkey4, hfb4, hR4, hcnt4, hb4⟩
        have hlo4 := hKs4.lo
        clear hKs4 hkey4 hkept hjk hR4 hfb4 hb4 hcnt4
        rw [hL] at hA4 f41 hks
        have hrA : (w4.alloc (.cells #[.float .f64 0] 53)).ownsRow (b0 + 3) 53 1 (.slice cp L ccap) L ((hist key C i).2.map fun x => .float .f64 (fi x)) := hA4.out.2.2.2.2.1.alloc _
        have hLd : (hist key C i).2.length = L := by omega
        rw [hL]
        go_wp2_with (at_builtin; refine Veil.off ?_)
        unfold Veil
        refine wpList_append_own _ rfl (.tmp 61) (.tmp 62) 45 rfl (b0 + 3) 53 i0 (.float .f64 0) 1 8 Ybaz.underlying45 Hi.out.1 Hi.out.2.1 Hi.out.2.2.1 Hi.out.2.2.2 rfl (by decide) (.slice cp L ccap) L _ rfl hrA ⟨w4.heap.size, 0, none⟩ 1 1 [.float .f64 0] rfl rfl ?a1 ?a2 ?a3 ?a4 ?a5 ?_
        case a1 => exact cell_one_new _ _ _
        case a2 => intro u hu; simp at hu; subst hu; rfl
        case a3 => simp [maxLen]; omega
        case a4 => omega
        case a5 => simp; omega
        intro v5 w5 hown5 hgrow5 _
        obtain ⟨hKs4, hkey4, hfb4, hR4, hcnt4, hb4⟩ := hA4.out
        obtain ⟨cb, c5, hv5⟩ := Joins.ownsRow_form hown5 (by omega)
        subst hv5
        have hba : Below w4.heap.size w4 (w4.alloc (.cells #[.float .f64 0] 53)) := (Below.refl _ _).alloc (Nat.le_refl _) _
        have hnb : ∀ k cs t f, w4.heap[k]? = some (.cells cs t f) → t ≠ 53 → k < w4.heap.size ∧ w5.heap[k]? = w4.heap[k]? := fun k cs t f hk ht => by
          have hkl := (Array.getElem?_eq_some_iff.1 hk).1
          refine ⟨hkl, (hgrow5.block k (by simp; omega) (fun e => ?_)).trans (hba.block k hkl)⟩
          obtain ⟨_, cur, hc⟩ := own_block hrA e.symm
          rw [hba.block k hkl, hk] at hc
          injection hc with hc
          injection hc with _ e5 _
          exact ht e5
        have hfb5 := ((hnb fb _ _ _ hfb4 (by decide)).2).trans hfb4
        have hR5 := ((hnb wr.heap.size _ _ _ hR4 (by decide)).2).trans hR4
        have hKs5 := (hKs4.later hba).grown hrA (by decide) hgrow5
        have hkey5 := row_other (row_below hkey4 hba) hrA (by decide) hgrow5
        have hsz5 : w4.heap.size ≤ w5.heap.size := by have := hgrow5.size; simp at this; omega
        have hb5 : Below w.heap.size w w5 := (hb4.alloc hb4.size _).grown hgrow5 (by simp; have := hb4.size; omega) (fun j e => by have := (own_block hrA e).1; omega)
        -- the field is stored
        obtain ⟨w6, hw6⟩ : ∃ w6, w5.setCell ⟨fb, 1, none⟩ (.slice (some ⟨cb, 0, none⟩) (L + 1) c5) = w6 := ⟨_, rfl⟩
        have hk6 : ∀ k, k < w5.heap.size → k ≠ fb → w6.heap[k]? = w5.heap[k]? := fun k _ hne => by rw [← hw6]; exact Below.heap_setCell _ _ _ _ hne
        have hKs6 := hKs5.one hfb5 (by decide) hk6
        have hkey6 := row_one hkey5 hfb5 (by decide) hk6
        have hcnt6 := row_one hown5 hfb5 (by decide) hk6
        have hfb6 : w6.heap[fb]? = some (.cells #[.pointer (some ⟨b0 + 2, 0, none⟩), .slice (some ⟨cb, 0, none⟩) (L + 1) c5, .float .f64 (fi sp)] 73 (0, 0)) := by
          rw [← hw6]
          have := Joins.block_setCell (i := 1) hfb5 (.slice (some ⟨cb, 0, none⟩) (L + 1) c5)
          simpa using this
        have hRfb : wr.heap.size ≠ fb := fun e => by rw [e] at hR5; rw [hfb5] at hR5; cases hR5
        have hR6 := (hk6 wr.heap.size (by omega) hRfb).trans hR5
        have hb6 : Below w.heap.size w w6 := by rw [← hw6]; exact hb5.setCell (p := ⟨fb, 1, none⟩) hfbl _
        have hds : ((hist key C i).2.map fun x => Value.float .f64 (fi x)) ++ [.float .f64 0] = ((hist key C i).2 ++ [0]).map fun x => .float .f64 (fi x) := by simp [fi_zero]
        rw [hds] at hcnt6
        have f51 : w5.cell? ⟨fb, 1, none⟩ = some (.slice cp L ccap) := Joins.cell_of_block hfb5 1
        have fz51 : w5.frozen? ⟨fb, 1, none⟩ = false := Joins.unfrozen_of_block hfb5 1
        have f61 : w6.cell? ⟨fb, 1, none⟩ = some (.slice (some ⟨cb, 0, none⟩) (L + 1) c5) := Joins.cell_of_block hfb6 1
        have hcell : w6.cell? ⟨cb, L, none⟩ = some (.float .f64 (fi 0)) := by
          rw [hcnt6.cellAt L (by omega), List.getElem?_map, List.getElem?_append_right (by omega), hLd]
          simp
        have hfz : w6.frozen? ⟨cb, L, none⟩ = false := by
          rcases hcnt6.2 with ⟨e, _⟩ | ⟨g, cap, cur, e, _, hh, _⟩
          · cases e
          · injection e with e1 _ _
            injection e1 with e1
            injection e1 with e1 _ _
            subst e1
            exact Joins.unfrozen_of_block hh L
        obtain ⟨B1, B2, B3, B4, B5⟩ := bump (j := L) (y := 0 + C i) hKs6 hkey6 hfb6 hcnt6
        have hend : HSt w fb b0 len N sp V key C nv fv (i + 1) (w6.drew.setCell ⟨cb, L, none⟩ (.float .f64 (fi (0 + C i)))) := by
          refine ⟨hb6.trans (B5.mono (by omega)), vs', kv', keyv', kn', kxs', .slice (some ⟨cb, 0, none⟩) (L + 1) c5, ?_⟩
          rw [hnx1, hnext]
          refine ⟨B1, B2, hkn4, B3, ?_⟩
          have e1 : ((hist key C i).2 ++ [0]).set L (0 + C i) = (hist key C i).2 ++ [C i] := by
            rw [List.set_append_right _ _ (by omega), hLd]
            simp
          rw [e1] at B4
          exact B4
        have hAe : Aside (HSt w fb b0 len N sp V key C nv fv (i + 1) (w6.drew.setCell ⟨cb, L, none⟩ (.float .f64 (fi (0 + C i))))) := hend
        have r63 : w6.cell? ⟨wr.heap.size, 3, none⟩ = some (.int .i64 (C i)) := Joins.cell_of_block hR6 3
        have hAw6 : Aside (w5.setCell ⟨fb, 1, none⟩ (.slice (some ⟨cb, 0, none⟩) (L + 1) c5) = w6) := hw6
        clear hend B1 B2 B3 B4 B5 hnext hKs4 hkey4 hfb4 hR4 hcnt4 hb4 hown5 hgrow5 hba hnb hfb5 hR5 hKs5 hkey5 hb5 hw6 hk6 hKs6 hkey6 hcnt6 hfb6 hR6 hb6 hds hrA hnx1 hfz1
        go_wp2
        rw [hAw6.out]
        refine from_r9 fb cb wr.heap.size (L + 1) c5 L 0 (C i) w6 f61 (by omega) hcell hfz r63 (by decide) (by omega) _ _ _ _ _ _ _ _ _ _ _ _ _ _ _ _ _ _ _ _ _ _ _ _ _ _ _ _ _ _ _ _ _ _ _ _ _ _ _ _ _ _ _ _ _ _ _ _ _ _ _ _ _ _ _ _ _ _ _ _ _ _ _ _ _ _ _ _ _ _ _ _ _ _ _ _ _ _ ?_
        intros
        go_wp2
        go_roundg (n - i)
        case measure => omega
        case rel => exact ⟨i + 1, by go_num, by omega, by omega, by have h9 := hAe.out; rw [Int.zero_add] at h9; exact h9⟩
    · obtain rfl : i = n := by omega
      have hAs : Aside (HSt w fb b0 len N sp V key C nv fv i wr) := hst
      clear hst
      go_wp2
      refine hK1'.out _ _ ?_
      go_wp2
      go_ret
      exact ⟨fb, nv, fv, rfl, hfbl, by rw [hAb.out.1]; exact hAs.out⟩
end Go.Proofs.YbulkcelaGreatDoor
