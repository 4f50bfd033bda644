/-
  The Kinds in memory (seat b4030aZD): what stays as it is while kinds are shown.
-/
import Derived.Test.YbulkcelaGreatDoorApp
import Derived.Test.YbulkcelaGreatDoorNewK
namespace Go.Proofs.YbulkcelaGreatDoor
open Go.RowKit Go.MapKept Go.Lib

/-- What all that the Kinds do leaves: all blocks but its record, its keys' bytes, its kinds, its index. -/
structure Kept (ib : Nat) (w w' : World) : Prop where
  os : w'.os = w.os
  tape : w'.tape = w.tape
  output : w'.output = w.output
  size : w.heap.size ≤ w'.heap.size
  low : ∀ k, k < ib → w'.heap[k]? = w.heap[k]?
  block : ∀ k o, w.heap[k]? = some o → k ≠ ib → (∀ c t fz, o = .cells c t fz → t ≠ 90 ∧ t ≠ 105 ∧ t ≠ 5) → w'.heap[k]? = some o

theorem Kept.refl (ib : Nat) (w : World) : Kept ib w w := ⟨rfl, rfl, rfl, Nat.le_refl _, fun _ _ => rfl, fun _ _ h _ _ => h⟩
theorem Kept.below {ib : Nat} {w w' : World} (h : Kept ib w w') : Below ib w w' := ⟨h.os, h.tape, h.output, h.size, h.low⟩
theorem Kept.trans {ib : Nat} {a b c : World} (h : Kept ib a b) (k : Kept ib b c) : Kept ib a c :=
  ⟨k.os.trans h.os, k.tape.trans h.tape, k.output.trans h.output, Nat.le_trans h.size k.size, fun j hj => (k.low j hj).trans (h.low j hj), fun j o hj hn ht => k.block j o (h.block j o hj hn ht) hn ht⟩
theorem Kept.later {ib : Nat} {w w' : World} (h : Below w.heap.size w w') (hi : ib ≤ w.heap.size) : Kept ib w w' :=
  ⟨h.os, h.tape, h.output, h.size, fun k hk => h.block k (by omega), fun k _ hk _ _ => (h.block k (Array.getElem?_eq_some_iff.1 hk).1).trans hk⟩
theorem Kept.row {ib base e size n : Nat} {v : Value} {xs : List Value} {w w' : World} (h : Kept ib w w') (he : e ≠ 90 ∧ e ≠ 105 ∧ e ≠ 5) (hr : w.ownsRow base e size v n xs) (hib : ∀ c t f, w.heap[ib]? ≠ some (.cells c t f)) : w'.ownsRow base e size v n xs := by
  obtain ⟨h0, h1⟩ := hr
  refine ⟨h0, ?_⟩
  rcases h1 with h1 | ⟨g, cap, cur, e1, e2, e3, e4⟩
  · exact .inl h1
  · refine .inr ⟨g, cap, cur, e1, e2, h.block g _ e3 (fun hg => by subst hg; exact hib _ _ _ e3) (fun c t fz hc => by cases hc; exact he), e4⟩
theorem Kept.map {ib r : Nat} {l : Ents} {w w' : World} (h : Kept ib w w') (hM : MapL w r l) (hr : r ≠ ib) : MapL w' r l := by
  obtain ⟨es, ck, hb, rest⟩ := hM
  exact ⟨es, ck, h.block r _ hb hr (fun c t fz hc => by cases hc), rest⟩

/-- The visit of a kind: its key is -1 (nothing is kept) or the value's number. -/
def VisAt (w : World) (ib : Nat) (v : Value) (k : Int) : Prop :=
  (k = -1 ∧ (v = .map none ∨ ∃ r, v = .map (some r) ∧ r ≠ ib ∧ MapL w r [])) ∨ (∃ m : Nat, m < 3 ∧ k = m ∧ ∃ r, v = .map (some r) ∧ r ≠ ib ∧ MapL w r [(aS, .string (valS m))])

theorem VisAt.kept {ib : Nat} {w w' : World} {v : Value} {k : Int} (h : VisAt w ib v k) (hk : ∀ r l, r ≠ ib → MapL w r l → MapL w' r l) : VisAt w' ib v k := by
  rcases h with ⟨h1, h2 | ⟨r, h2, h3, h4⟩⟩ | ⟨m, h1, h2, r, h3, h4, h5⟩
  · exact .inl ⟨h1, .inl h2⟩
  · exact .inl ⟨h1, .inr ⟨r, h2, h3, hk r _ h3 h4⟩⟩
  · exact .inr ⟨m, h1, h2, r, h3, h4, hk r _ h4 h5⟩

/-- The Kinds' record and what hangs on it. -/
structure Ks (w : World) (b0 len N : Nat) (V : Nat → Nat) (ki : Ents) (ks : List Int) (vs : Nat → Value) (nv fv kv keyv : Value) : Prop where
  box : w.heap[b0 + 2]? = some (.cells #[.map (some b0), nv, fv, .map (some (b0 + 1)), kv, .int .i64 0, keyv] 90 (0, 0))
  acc : Acc w (b0 + 2) b0 V len
  idx : MapL w (b0 + 1) ki
  names : w.ownsRow (b0 + 3) 9 1 nv (if len = 0 then 0 else 1) (if len = 0 then [] else [.string aS])
  flown : w.ownsRow (b0 + 3) 92 1 fv len ((List.range len).map (cptr N))
  kinds : w.ownsRow (b0 + 3) 105 2 kv ks.length ((List.range ks.length).flatMap fun j => [vs j, .slice none 0 0])
  vis : ∀ (j : Nat) (k : Int), ks[j]? = some k → VisAt w (b0 + 1) (vs j) k

section
variable {w w' : World} {b0 len N : Nat} {V : Nat → Nat} {ki : Ents} {ks : List Int} {vs : Nat → Value} {nv fv kv keyv : Value}

theorem Ks.lo (h : Ks w b0 len N V ki ks vs nv fv kv keyv) : b0 + 2 < w.heap.size := (Array.getElem?_eq_some_iff.1 h.box).1

theorem map_no_cells {w : World} {r : Nat} {l : Ents} (h : MapL w r l) : ∀ c t f, w.heap[r]? ≠ some (.cells c t f) := by
  obtain ⟨es, ck, hb, _⟩ := h
  intro c t f hc
  rw [hb] at hc; cases hc

theorem Ks.later (h : Ks w b0 len N V ki ks vs nv fv kv keyv) (hb : Below w.heap.size w w') : Ks w' b0 len N V ki ks vs nv fv kv keyv := by
  have hlo := h.lo
  exact ⟨(hb.block _ hlo).trans h.box, h.acc.block (hb.block _ (by omega)) (fun mb _ hm _ => hb.block mb hm), h.idx.block (hb.block _ (by omega)), row_below h.names hb, row_below h.flown hb, row_below h.kinds hb,
    fun j k hj => (h.vis j k hj).kept fun r l _ hM => hM.block (hb.block r hM.lt)⟩

theorem row_other {base base' e e' size size' n n' : Nat} {v u : Value} {xs ys : List Value} (h : w.ownsRow base e size v n xs) (hu : w.ownsRow base' e' size' u n' ys) (he : e ≠ e') (hg : w.grownBy w' u.ownBlock) : w'.ownsRow base e size v n xs := by
  obtain ⟨h0, h1⟩ := h
  refine ⟨h0, ?_⟩
  rcases h1 with h1 | ⟨g, cap, cur, e1, e2, e3, e4⟩
  · exact .inl h1
  · refine .inr ⟨g, cap, cur, e1, e2, (hg.block g (Array.getElem?_eq_some_iff.1 e3).1 fun hh => ?_).trans e3, e4⟩
    obtain ⟨_, cur', hc⟩ := own_block hu hh.symm
    rw [hc] at e3
    injection e3 with e3
    injection e3 with _ e5 _
    exact he e5.symm

theorem grown_map {base e size n r : Nat} {u : Value} {ys : List Value} {l : Ents} (hM : MapL w r l) (hu : w.ownsRow base e size u n ys) (hg : w.grownBy w' u.ownBlock) : MapL w' r l :=
  hM.block (hg.block r hM.lt fun hh => by
    obtain ⟨_, cur', hc⟩ := own_block hu hh.symm
    exact map_no_cells hM _ _ _ hc)

/-- A row of another element's type grows. -/
theorem Ks.grown {base e size n : Nat} {u : Value} {ys : List Value} (h : Ks w b0 len N V ki ks vs nv fv kv keyv) (hu : w.ownsRow base e size u n ys) (he : e ≠ 9 ∧ e ≠ 92 ∧ e ≠ 105 ∧ e ≠ 90) (hg : w.grownBy w' u.ownBlock) : Ks w' b0 len N V ki ks vs nv fv kv keyv := by
  have hlo := h.lo
  have hnb : ∀ k c t f, w.heap[k]? = some (.cells c t f) → t ≠ e → u.ownBlock ≠ some k := fun k c t f hk ht hh => by
    obtain ⟨_, cur', hc⟩ := own_block hu hh
    rw [hc] at hk
    injection hk with hk
    injection hk with _ e5 _
    exact ht e5.symm
  refine ⟨(hg.block _ hlo fun hh => hnb _ _ _ _ h.box (fun e' => he.2.2.2 e'.symm) hh.symm).trans h.box, ?_, grown_map h.idx hu hg, row_other h.names hu (fun e' => he.1 e'.symm) hg, row_other h.flown hu (fun e' => he.2.1 e'.symm) hg, row_other h.kinds hu (fun e' => he.2.2.1 e'.symm) hg, fun j k hj => (h.vis j k hj).kept fun r l _ hM => grown_map hM hu hg⟩
  rcases h.acc with ⟨h1, h2⟩ | ⟨h1, mb, vs', h2, h3, h4, h5, h6⟩
  · exact .inl ⟨h1, grown_map h2 hu hg⟩
  · exact .inr ⟨h1, mb, vs', h2, h3, grown_map h4 hu hg, grown_map h5 hu hg, h6⟩

/-- A store into a field of the record. -/
theorem Ks.field (h : Ks w b0 len N V ki ks vs nv fv kv keyv) (i : Nat) (u : Value) : 
    (w.setCell ⟨b0 + 2, i, none⟩ u).heap[b0 + 2]? = some (.cells (#[.map (some b0), nv, fv, .map (some (b0 + 1)), kv, .int .i64 0, keyv].setIfInBounds i u) 90 (0, 0)) := Joins.block_setCell h.box u

theorem Ks.setKey (h : Ks w b0 len N V ki ks vs nv fv kv keyv) (u : Value) : Ks (w.setCell ⟨b0 + 2, 6, none⟩ u) b0 len N V ki ks vs nv fv kv u := by
  have hset : ∀ k, k ≠ b0 + 2 → (w.setCell ⟨b0 + 2, 6, none⟩ u).heap[k]? = w.heap[k]? := fun k hk => Below.heap_setCell _ _ _ _ hk
  have hm : ∀ r l, MapL w r l → MapL (w.setCell ⟨b0 + 2, 6, none⟩ u) r l := fun r l hM => hM.block (hset r (fun e => by subst e; exact map_no_cells hM _ _ _ h.box))
  refine ⟨by simpa using h.field 6 u, ?_, hm _ _ h.idx, row_set h.names (by omega), row_set h.flown (by omega), row_set h.kinds (by omega), fun j k hj => (h.vis j k hj).kept fun r l _ hM => hm r l hM⟩
  rcases h.acc with ⟨h1, h2⟩ | ⟨h1, mb, vs', h2, h3, h4, h5, h6⟩
  · exact .inl ⟨h1, hm _ _ h2⟩
  · exact .inr ⟨h1, mb, vs', h2, h3, hm _ _ h4, hm _ _ h5, h6⟩

theorem Kept.setRec (ib : Nat) {w : World} {b i : Nat} {cs : Array Value} (u : Value) (hb : w.heap[b]? = some (.cells cs 90 (0, 0))) (hib : ib ≤ b) : Kept ib w (w.setCell ⟨b, i, none⟩ u) :=
  ⟨rfl, rfl, rfl, by simp [World.setCell], fun k hk => Below.heap_setCell _ _ _ _ (by show k ≠ b; omega), fun k o hk _ ht => (Below.heap_setCell _ _ _ _ (by
    show k ≠ b
    intro e
    subst e
    rw [hb] at hk
    cases hk
    exact (ht _ _ _ rfl).1 rfl)).trans hk⟩

theorem Kept.grown {ib base e size n : Nat} {u : Value} {ys : List Value} (hu : w.ownsRow base e size u n ys) (he : e = 5 ∨ e = 105) (hg : w.grownBy w' u.ownBlock) (hib : ib ≤ base) (hsz : ib ≤ w.heap.size) : Kept ib w w' :=
  ⟨hg.os, hg.tape, hg.output, hg.size, fun k hk => hg.block k (by omega) (fun e => by have := (own_block hu e.symm).1; omega), fun k o hk _ ht => (hg.block k (Array.getElem?_eq_some_iff.1 hk).1 fun hh => by
    obtain ⟨_, cur', hc⟩ := own_block hu hh.symm
    rw [hc] at hk
    cases hk
    have h3 := ht _ _ _ rfl
    rcases he with he | he
    · exact h3.2.2 he
    · exact h3.2.1 he).trans hk⟩

/-- A new entry in the index. -/
theorem Ks.setIdx {l : Ents} (h : Ks w b0 len N V ki ks vs nv fv kv keyv) (hM : MapL w' (b0 + 1) l) (hg : w.grownBy w' (some (b0 + 1))) : Ks w' b0 len N V l ks vs nv fv kv keyv := by
  have hlo := h.lo
  have keep : ∀ k, k < w.heap.size → k ≠ b0 + 1 → w'.heap[k]? = w.heap[k]? := fun k hk hne => hg.block k hk (fun e => hne (by injection e))
  exact ⟨(keep _ hlo (by omega)).trans h.box, h.acc.block (keep _ (by omega) (by omega)) (fun mb hm hl _ => keep mb hl (by omega)), hM, row_map h.names h.idx hg, row_map h.flown h.idx hg, row_map h.kinds h.idx hg, fun j k hj => (h.vis j k hj).kept fun r l hr hM' => hM'.block (keep r hM'.lt hr)⟩

theorem Kept.idx {ib : Nat} (hg : w.grownBy w' (some ib)) (hsz : ib ≤ w.heap.size) : Kept ib w w' :=
  ⟨hg.os, hg.tape, hg.output, hg.size, fun k hk => hg.block k (by omega) (fun e => by injection e; omega), fun k _ hk hne _ => (hg.block k (Array.getElem?_eq_some_iff.1 hk).1 (fun e => hne (by injection e))).trans hk⟩

/-- A new kind. -/
theorem Ks.push {k : Int} {v kv' : Value} (h : Ks w b0 len N V ki ks vs nv fv kv keyv) (hg : w.grownBy w' kv.ownBlock)
    (hrow : w'.ownsRow (b0 + 3) 105 2 kv' (ks.length + 1) (((List.range ks.length).flatMap fun j => [vs j, .slice none 0 0]) ++ [v, .slice none 0 0])) (hv : VisAt w (b0 + 1) v k) :
    Ks (w'.setCell ⟨b0 + 2, 4, none⟩ kv') b0 len N V ki (ks ++ [k]) (fun j => if j < ks.length then vs j else v) nv fv kv' keyv := by
  have hlo := h.lo
  have hsz := hg.size
  have hnb : kv.ownBlock ≠ some (b0 + 2) := fun hh => by
    obtain ⟨_, cur', hc⟩ := own_block h.kinds hh
    rw [h.box] at hc
    cases hc
  have hbox' : w'.heap[b0 + 2]? = some (.cells #[.map (some b0), nv, fv, .map (some (b0 + 1)), kv, .int .i64 0, keyv] 90 (0, 0)) := (hg.block _ hlo (fun e => hnb e.symm)).trans h.box
  have hset : ∀ j, j ≠ b0 + 2 → (w'.setCell ⟨b0 + 2, 4, none⟩ kv').heap[j]? = w'.heap[j]? := fun j hj => Below.heap_setCell _ _ _ _ hj
  have hm : ∀ r l, MapL w r l → MapL (w'.setCell ⟨b0 + 2, 4, none⟩ kv') r l := fun r l hM => (grown_map hM h.kinds hg).block (hset r (fun e => by subst e; exact map_no_cells hM _ _ _ h.box))
  refine ⟨?_, ?_, hm _ _ h.idx, row_set (row_other h.names h.kinds (by decide) hg) (by omega), row_set (row_other h.flown h.kinds (by decide) hg) (by omega), ?_, fun j q hj => ?_⟩
  · have := Joins.block_setCell (i := 4) hbox' kv'
    simpa using this
  · rcases h.acc with ⟨h1, h2⟩ | ⟨h1, mb, vs', h2, h3, h4, h5, h6⟩
    · exact .inl ⟨h1, hm _ _ h2⟩
    · exact .inr ⟨h1, mb, vs', h2, h3, hm _ _ h4, hm _ _ h5, h6⟩
  · have e1 : (List.range (ks ++ [k]).length).flatMap (fun j => [if j < ks.length then vs j else v, .slice none 0 0]) = ((List.range ks.length).flatMap fun j => [vs j, .slice none 0 0]) ++ [v, .slice none 0 0] := by
      rw [List.length_append, List.length_singleton, List.range_succ, List.flatMap_append]
      have e0 : ∀ n, n ≤ ks.length → (List.range n).flatMap (fun j => [if j < ks.length then vs j else v, Value.slice none 0 0]) = (List.range n).flatMap fun j => [vs j, .slice none 0 0] := fun n => by
        induction n with
        | zero => intro _; rfl
        | succ n ih =>
          intro hn
          rw [List.range_succ, List.flatMap_append, List.flatMap_append, ih (by omega)]
          simp [show n < ks.length by omega]
      rw [e0 _ (Nat.le_refl _)]
      simp
    have e2 : (ks ++ [k]).length = ks.length + 1 := by simp
    rw [e1, e2]
    exact row_set hrow (by omega)
  · by_cases hjl : j < ks.length
    · rw [List.getElem?_append_left hjl] at hj
      simp only [hjl, if_true]
      exact (h.vis j q hj).kept fun r l _ hM => hm r l hM
    · rw [List.getElem?_append_right (by omega)] at hj
      have : j - ks.length = 0 ∧ k = q := by
        cases hq : j - ks.length with
        | zero => rw [hq] at hj; simpa using hj
        | succ n => rw [hq] at hj; simp at hj
      rw [← this.2]
      simp only [hjl, if_false]
      exact hv.kept fun r l _ hM => hm r l hM
end
end Go.Proofs.YbulkcelaGreatDoor
