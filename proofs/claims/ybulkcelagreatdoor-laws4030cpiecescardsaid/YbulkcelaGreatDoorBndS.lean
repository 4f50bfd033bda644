/-
  bound: what its first loops keep (seat b4030aZD).
-/
import Derived.Test.YbulkcelaGreatDoorClone
namespace Go.Proofs.YbulkcelaGreatDoor
open Go.RowKit Go.MapKept Go.Lib Go.Shelf Go.Maps Go.Sort

/-- The contracts, among the first c, that target the value k. -/
def flK (V : Nat → Nat) (c : Nat) (k : Int) : List Nat := (List.range c).filter fun i => decide ((V i : Int) = k)
theorem flK_no (V : Nat → Nat) (c : Nat) (k : Int) (h : (V c : Int) ≠ k) : flK V (c + 1) k = flK V c k := by
  unfold flK
  rw [List.range_succ, List.filter_append]
  simp [h]
theorem flK_yes (V : Nat → Nat) (c : Nat) (k : Int) (h : (V c : Int) = k) : flK V (c + 1) k = flK V c k ++ [c] := by
  unfold flK
  rw [List.range_succ, List.filter_append]
  simp [h]
theorem flK_le (V : Nat → Nat) (c : Nat) (k : Int) : (flK V c k).length ≤ c := by
  unfold flK
  exact Nat.le_trans (List.length_filter_le _ _) (by simp)
theorem flK_lt {V : Nat → Nat} {c i : Nat} {k : Int} (h : i ∈ flK V c k) : i < c := by
  unfold flK at h
  exact List.mem_range.1 (List.mem_filter.1 h).1
def ints (l : List Nat) : List Value := l.map fun i => .int .i64 (i : Nat)

/-- The rows of the second loop, once a column is made. -/
structure BCol (w : World) (ks : List Int) (V : Nat → Nat) (c : Nat) (fw : Value) (fl : Nat → Value) (wr : World) (cb lo hi : Nat) : Prop where
  lo4 : w.heap.size + 4 ≤ lo
  lohi : lo ≤ hi
  hiw : hi ≤ wr.heap.size
  map : MapL wr (w.heap.size + 2) [(aS, .pointer (some ⟨cb, 0, none⟩))]
  col : ColIn lo hi wr cb ks
  found : ∃ n xs, wr.ownsRow hi 3 1 fw n xs
  rows : ∀ (j : Nat) (k : Int), ks[j]? = some k → wr.ownsRow hi 3 1 (fl j) (flK V c k).length (ints (flK V c k))
  apart : ∀ i j g, i < ks.length → j < ks.length → (fl i).ownBlock = some g → (fl j).ownBlock = some g → i = j
  apart2 : ∀ i g, i < ks.length → (fl i).ownBlock = some g → fw.ownBlock ≠ some g

/-- The second loop's state. -/
structure BSt (w : World) (ks : List Int) (vs : Nat → Value) (V : Nat → Nat) (c : Nat) (fw : Value) (fl : Nat → Value) (wr : World) : Prop where
  below : Below w.heap.size w wr
  vis : ∃ cur : Array Value, wr.heap[w.heap.size]? = some (.cells cur 49 (0, 0)) ∧ ∀ j, j < ks.length → cur[j]? = some (vs j)
  idx : wr.heap[w.heap.size + 3]? = some (.cells #[.slice (some ⟨w.heap.size, 0, none⟩) ks.length ks.length, .int .i32 0, .int .u32 0, .map (some (w.heap.size + 2))] 148 (0, 0))
  flb : wr.heap[w.heap.size + 1]? = some (.cells ((List.range ks.length).map fl).toArray 44 (0, 0))
  st : (c = 0 ∧ MapL wr (w.heap.size + 2) [] ∧ fw = .slice none 0 0 ∧ ∀ j, j < ks.length → fl j = .slice none 0 0) ∨ (∃ cb lo hi, BCol w ks V c fw fl wr cb lo hi)

theorem BSt.drewN {w wr : World} {ks : List Int} {vs : Nat → Value} {V : Nat → Nat} {c : Nat} {fw : Value} {fl : Nat → Value} (h : BSt w ks vs V c fw fl wr) (q : Nat) : BSt w ks vs V c fw fl (wr.drewN q) := by
  obtain ⟨h1, h2, h3, h4, h5⟩ := h
  refine ⟨⟨h1.os, h1.tape, h1.output, h1.size, h1.block⟩, h2, h3, h4, ?_⟩
  rcases h5 with ⟨e1, e2, e3, e4⟩ | ⟨cb, lo, hi, g⟩
  · exact .inl ⟨e1, e2.block rfl, e3, e4⟩
  · exact .inr ⟨cb, lo, hi, g.lo4, g.lohi, g.hiw, g.map.block rfl, g.col.kept (fun _ _ _ => rfl), by obtain ⟨n, xs, hr⟩ := g.found; exact ⟨n, xs, hr.1, hr.2⟩, fun j k hj => ⟨(g.rows j k hj).1, (g.rows j k hj).2⟩, g.apart, g.apart2⟩

/-- found[:0]. -/
def cut0 : Value → Value
  | .slice p _ c => .slice p 0 c
  | v => v

theorem cut0_own (v : Value) : (cut0 v).ownBlock = v.ownBlock := by
  cases v <;> first | rfl | (rename_i p _ _; cases p <;> rfl)

theorem owns_cut0 {w : World} {base e size n : Nat} {v : Value} {xs : List Value} (h : w.ownsRow base e size v n xs) : w.ownsRow base e size (cut0 v) 0 [] := by
  obtain ⟨h0, ⟨rfl, h1⟩ | ⟨g, cap, cur, rfl, e2, e3, e4, e5, e6, e7⟩⟩ := h
  · exact ⟨by simp, .inl ⟨rfl, rfl⟩⟩
  · exact ⟨by simp, .inr ⟨g, cap, cur, rfl, e2, e3, by omega, e5, e6, by simp⟩⟩

theorem owns_far {w w' : World} {base e size n : Nat} {v : Value} {xs : List Value} (h : w.ownsRow base e size v n xs) (hk : ∀ g, v.ownBlock = some g → w'.heap[g]? = w.heap[g]?) : w'.ownsRow base e size v n xs := by
  obtain ⟨h0, h1 | ⟨g, cap, cur, rfl, e2, e3, e4⟩⟩ := h
  · exact ⟨h0, .inl h1⟩
  · exact ⟨h0, .inr ⟨g, cap, cur, rfl, e2, (hk g rfl).trans e3, e4⟩⟩

/-- matching, at a state of the second loop. -/
theorem match_b {w wr : World} {ks : List Int} {vs : Nat → Value} {V : Nat → Nat} {c : Nat} {fw : Value} {fl : Nat → Value} (h : BSt w ks vs V c fw fl wr) (ib tb sb : Nat) (hK : ks.length ≤ 300) (hnd : ks.Nodup) (hr : ∀ x ∈ ks, -1 ≤ x ∧ x ≤ 2)
    (hvs : ∀ (j : Nat) (k : Int), ks[j]? = some k → VisAt w ib (vs j) k) (hV : V c < 3) (ht : tb < w.heap.size) (hsl : sb < w.heap.size) (hM : MapL w tb [(aS, .slice (some ⟨sb, 0, none⟩) 1 1)]) (hs : w.cell? ⟨sb, 0, none⟩ = some (.string (valS (V c)))) :
    Calls Ybaz.prog 56 #[.pointer (some ⟨w.heap.size + 3, 0, none⟩), cut0 fw, .map (some tb)] wr fun e w' => ∃ v js, e = .returned v ∧ js.length ≤ 1 ∧ (∀ j : Nat, j ∈ js ↔ ks[j]? = some (V c : Int)) ∧ BSt w ks vs V c v fl w' ∧ (∃ cb lo hi, BCol w ks V c v fl w' cb lo hi) ∧ w'.ownsRow (w.heap.size + 4) 3 1 v js.length (ints js) := by
  obtain ⟨cur, hv1, hv2⟩ := h.vis
  have hlt3 : w.heap.size + 3 < wr.heap.size := (Array.getElem?_eq_some_iff.1 h.idx).1
  have hmt : MapL wr tb [(aS, .slice (some ⟨sb, 0, none⟩) 1 1)] := hM.block (h.below.block tb ht)
  have hst : wr.cell? ⟨sb, 0, none⟩ = some (.string (valS (V c))) := (h.below.cell (p := ⟨sb, 0, none⟩) hsl).trans hs
  have hflt : ∀ (k : Int), ks[0]? = some k → True := fun _ _ => trivial
  -- column's contract, and the row found[:0]
  have hC : ∃ (Z : Nat → Nat → Nat → Prop) (D : Nat), ColC wr (w.heap.size + 3) (w.heap.size + 2) (cut0 fw) ks Z ∧ wr.ownsRow D 3 1 (cut0 fw) 0 [] ∧ (∀ cc tt ff, wr.heap[w.heap.size + 2]? ≠ some (.cells cc tt ff)) ∧
      (∀ cb lo hi, Z cb lo hi → w.heap.size + 4 ≤ lo ∧ lo ≤ hi ∧ (∀ (j : Nat) (k : Int), ks[j]? = some k → wr.ownsRow hi 3 1 (fl j) (flK V c k).length (ints (flK V c k)))) ∧
      (∀ i j g, i < ks.length → j < ks.length → (fl i).ownBlock = some g → (fl j).ownBlock = some g → i = j) ∧ (∀ i g, i < ks.length → (fl i).ownBlock = some g → fw.ownBlock ≠ some g ∧ g ≠ w.heap.size + 2 ∧ g < wr.heap.size) ∧ (∀ g, fw.ownBlock = some g → w.heap.size + 4 ≤ g) := by
    rcases h.st with ⟨e1, e2, e3, e4⟩ | ⟨cb, lo, hi, g⟩
    · subst e3
      refine ⟨_, 0, colC_new (w.heap.size + 3) (w.heap.size + 2) w.heap.size ks.length ib ks vs wr h.idx e2 hK hnd hr (fun j k hj => ?_) (by omega) (by omega), ⟨rfl, .inl ⟨rfl, rfl⟩⟩, map_no_cells e2, ?_, ?_, ?_, ?_⟩
      · have hj' := (List.getElem?_eq_some_iff.1 hj).1
        refine ⟨(Joins.cell_of_block hv1 j).trans (hv2 j hj'), (hvs j k hj).kept fun r l _ hM => hM.block (h.below.block r hM.lt)⟩
      · rintro cb lo hi ⟨z1, z2⟩
        refine ⟨by omega, z2, fun j k hj => ?_⟩
        rw [e4 j (List.getElem?_eq_some_iff.1 hj).1, e1]
        exact ⟨by simp [flK, ints], .inl ⟨rfl, by simp [flK]⟩⟩
      · intro i j g hi hj hg
        rw [e4 i hi] at hg
        simp [Value.ownBlock] at hg
      · intro i g hi hg
        rw [e4 i hi] at hg
        simp [Value.ownBlock] at hg
      · intro g hg
        simp [Value.ownBlock] at hg
    · obtain ⟨n, xs, hfr⟩ := g.found
      have hlo := g.lo4
      have hlh := g.lohi
      refine ⟨_, hi, colC_old (w.heap.size + 3) (w.heap.size + 2) ks.length cb ks.length lo hi ks _ (cut0 fw) wr h.idx g.map g.hiw g.col (fun d hd => ?_), owns_cut0 hfr, map_no_cells g.map, ?_, g.apart, ?_, ?_⟩
      · rw [cut0_own] at hd
        exact (own_block hfr hd).1
      · rintro cb' lo' hi' ⟨rfl, rfl, rfl⟩
        exact ⟨hlo, hlh, g.rows⟩
      · intro i gg hi' hg
        refine ⟨g.apart2 i gg hi' hg, ?_, ?_⟩
        · have hj : ks[i]? = some ks[i] := List.getElem?_eq_getElem hi'
          have := (own_block (g.rows i _ hj) hg).1
          omega
        · have hj : ks[i]? = some ks[i] := List.getElem?_eq_getElem hi'
          obtain ⟨_, cur', hc'⟩ := own_block (g.rows i _ hj) hg
          exact (Array.getElem?_eq_some_iff.1 hc').1
      · intro gg hg
        have := (own_block hfr hg).1
        omega
  obtain ⟨Z, D, hCC, hrow, hmc, hZ, hap, hap2, hfw4⟩ := hC
  -- what both ends give
  have hend : ∀ (v : Value) (js : List Nat) (w' : World), MEnd wr (w.heap.size + 2) Z (cut0 fw) ks v js.length (ints js) w' → BSt w ks vs V c v fl w' ∧ (∃ cb lo hi, BCol w ks V c v fl w' cb lo hi) ∧ w'.ownsRow (w.heap.size + 4) 3 1 v js.length (ints js) := by
    intro v js w' hE
    obtain ⟨cb, lo, hi, hz, hm, hcol, hhi, hown⟩ := hE.col
    obtain ⟨z1, z2, z3⟩ := hZ cb lo hi hz
    have hfar : ∀ k, k < w.heap.size + 4 → k ≠ w.heap.size + 2 → w'.heap[k]? = wr.heap[k]? := fun k hk hne => hE.block k (by omega) hne (fun e => by rw [cut0_own] at e; have := hfw4 k e; omega)
    have hB : BCol w ks V c v fl w' cb lo hi := by
      refine ⟨z1, z2, hhi, hm, hcol, ⟨_, _, hown⟩, fun j k hj => ?_, hap, fun i gg hi' hg e => ?_⟩
      · have hj' := (List.getElem?_eq_some_iff.1 hj).1
        refine owns_far (z3 j k hj) fun gg hg => ?_
        obtain ⟨f1, f2, f3⟩ := hap2 j gg hj' hg
        exact hE.block gg f3 f2 (fun e => f1 (by rw [cut0_own] at e; exact e))
      · obtain ⟨f1, f2, f3⟩ := hap2 i gg hi' hg
        rcases hE.lies with hl | hl
        · rw [hl, cut0_own] at e
          exact f1 e
        · have := hl gg e
          omega
    refine ⟨⟨?_, ⟨cur, (hfar _ (by omega) (by omega)).trans hv1, hv2⟩, (hfar _ (by omega) (by omega)).trans h.idx, (hfar _ (by omega) (by omega)).trans h.flb, .inr ⟨cb, lo, hi, hB⟩⟩, ⟨cb, lo, hi, hB⟩, row_base hown (by omega)⟩
    have hsz := h.below.size
    exact h.below.trans ⟨hE.os, hE.tape, hE.output, by have := hE.size; omega, fun k hk => hfar k (by omega) (by omega)⟩
  by_cases hin : (V c : Int) ∈ ks
  · obtain ⟨j, hjl, hj⟩ := List.getElem_of_mem hin
    have hj' : ks[j]? = some (V c : Int) := by rw [List.getElem?_eq_getElem hjl, hj]
    refine (mat_held (w.heap.size + 3) (w.heap.size + 2) tb sb (V c) j D Z (cut0 fw) ks wr hmt hst hrow (by omega) (by omega) (by omega) hmc hCC hj' hK).mono ?_
    rintro e w' ⟨v, rfl, hE⟩
    obtain ⟨r1, r2, r3⟩ := hend v [j] w' hE
    refine ⟨v, [j], rfl, by simp, fun i => ?_, r1, r2, r3⟩
    constructor
    · intro hi
      rw [List.mem_singleton.1 hi]; exact hj'
    · intro hi
      have hil := (List.getElem?_eq_some_iff.1 hi).1
      have := (List.getElem?_inj hil hnd).1 (hi.trans hj'.symm)
      simp [this]
  · refine (mat_nope (w.heap.size + 3) (w.heap.size + 2) tb sb (V c) D Z (cut0 fw) ks wr hmt hst hrow (by omega) (by omega) (by omega) hmc hCC hin hV hr).mono ?_
    rintro e w' ⟨v, rfl, hE⟩
    obtain ⟨r1, r2, r3⟩ := hend v [] w' hE
    refine ⟨v, [], rfl, by simp, fun i => ?_, r1, r2, r3⟩
    constructor
    · intro hi; cases hi
    · intro hi
      exact absurd (List.mem_of_getElem? hi) hin
end Go.Proofs.YbulkcelaGreatDoor
