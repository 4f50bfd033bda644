/-
  LawS4037CInstall: '(*peer).viewEvent' by its contract (seat b4037aD).
-/
import Derived.Test.YbulkceouDoorRound
import Derived.BigRegionIn
import Derived.Deep.RegionHeld
import Derived.Deep.RegionHeldLaw
import Derived.Lib.Builder
namespace Go.Proofs.YbulkceouDoor
open Go.RowKit Go.Shelf
attribute [local go_sem] Oper.semAt_some

theorem load28 (W : World) (b : Nat) (x y : Int) (h0 : W.cell? ⟨b, 19, none⟩ = some (.int .u64 x)) (h1 : W.cell? ⟨b, 20, none⟩ = some (.int .i64 y)) :
    Sem.run Ybad.prog (Instr.loadAt 28 (.pointer (some ⟨b, 19, none⟩))) W = .ok (Value.agg #[.int .u64 x, .int .i64 y]) W := by
  simp [go_sem, Instr.loadAt, h0, h1]

/-- The cells of a view's event. -/
def evCells (name : ByteArray) (num : Int) (mb : Int) (ms : Value) : Array Value :=
  #[.string ⟨#[118, 105, 101, 119]⟩, .string name, .int .u64 num, .int .i64 mb, ms, .pointer none, .int .u64 0, .int .i64 0, .int .u64 0, .int .i64 0, .slice none 0 0, .pointer none, .slice none 0 0, .pointer none, .pointer none]

theorem info9 : (Ybad.prog.info? 9).map (fun i => (i.zero, i.size, i.bytes)) = some (some (.string ⟨#[]⟩), 1, 16) := by kernel_rfl

theorem size62 : (Ybad.prog.info? 62).map (·.size) = some 15 := by kernel_rfl

/-- An event's zero cells. -/
def evZero : Array Value := #[.string ⟨#[]⟩, .string ⟨#[]⟩, .int .u64 0, .int .i64 0, .slice none 0 0, .pointer none, .int .u64 0, .int .i64 0, .int .u64 0, .int .i64 0, .slice none 0 0, .pointer none, .slice none 0 0, .pointer none, .pointer none]

/-- UNDER A NAME: so the walk does not store it cell by cell. -/
theorem foldZ : Value.agg #[.string ⟨#[]⟩, .string ⟨#[]⟩, .int .u64 0, .int .i64 0, .slice none 0 0, .pointer none, .int .u64 0, .int .i64 0, .int .u64 0, .int .i64 0, .slice none 0 0, .pointer none, .slice none 0 0, .pointer none, .pointer none] = .agg evZero := rfl
theorem foldO : Obj.cells #[.string ⟨#[]⟩, .string ⟨#[]⟩, .int .u64 0, .int .i64 0, .slice none 0 0, .pointer none, .int .u64 0, .int .i64 0, .int .u64 0, .int .i64 0, .slice none 0 0, .pointer none, .slice none 0 0, .pointer none, .pointer none] 62 (0, 0) = .cells evZero 62 (0, 0) := rfl
theorem size_evZero : evZero.size = 15 := rfl
theorem evZero_ne : (evZero = #[]) = False := by simp [evZero]
theorem foldE (name : ByteArray) (num mb : Int) : ((((evZero.setIfInBounds 0 (.string ⟨#[118, 105, 101, 119]⟩)).setIfInBounds 1 (.string name)).setIfInBounds 2 (.int .u64 num)).setIfInBounds 3 (.int .i64 mb)) = evCells name num mb (.slice none 0 0) := rfl
theorem size_evCells (name : ByteArray) (num mb : Int) (ms : Value) : (evCells name num mb ms).size = 15 := rfl
attribute [local go_sem] foldZ foldO size_evZero evZero_ne foldE size_evCells

theorem ev_one (name : ByteArray) (num mb : Int) : ∀ v ∈ (evCells name num mb (.slice none 0 0)).toList, v.oneCell' = true := by
  intro v hv
  simp only [evCells, List.mem_cons, List.not_mem_nil, or_false] at hv
  rcases hv with rfl | rfl | rfl | rfl | rfl | rfl | rfl | rfl | rfl | rfl | rfl | rfl | rfl | rfl | rfl <;> rfl

/-- A whole event stored. -/
theorem store_ev (w : World) (b : Nat) (name : ByteArray) (num mb : Int) (cs : Array Value) (hb : w.heap[b]? = some (.cells cs 62 (0, 0))) (hc : cs.size = 15) :
    (storeCells ⟨b, 0, none⟩ (evCells name num mb (.slice none 0 0)).toList).run Ybad.prog w = .ok () (w.setCells b 0 (evCells name num mb (.slice none 0 0)).toList) := by
  have := run_storeCells_cells (P := Ybad.prog) b 0 (evCells name num mb (.slice none 0 0)).toList 0 w
    (fun j hj => by
      rw [Joins.cell_of_block hb]
      have : j < cs.size := by rw [hc]; simpa [evCells] using hj
      simp [this])
    (fun j hj => Joins.unfrozen_of_block hb _) (ev_one name num mb)
  simpa using this

theorem setCells_frame (b : Nat) : ∀ (vs : List Value) (o : Nat) (w : World), (w.setCells b o vs).os = w.os ∧ (w.setCells b o vs).tape = w.tape ∧ (w.setCells b o vs).output = w.output ∧ (w.setCells b o vs).heap.size = w.heap.size ∧ ∀ k, k ≠ b → (w.setCells b o vs).heap[k]? = w.heap[k]?
  | [], o, w => ⟨rfl, rfl, rfl, rfl, fun _ _ => rfl⟩
  | v :: vs, o, w => by
    obtain ⟨h1, h2, h3, h4, h5⟩ := setCells_frame b vs (o + 1) (w.setCell ⟨b, o, none⟩ v)
    rw [World.setCells]
    refine ⟨h1, h2, h3, h4.trans (by simp [World.setCell]), fun k hk => (h5 k hk).trans (Below.heap_setCell _ _ _ _ hk)⟩

theorem setCells_block (b : Nat) (t : TypeId) : ∀ (vs : List Value) (o : Nat) (w : World) (cs : Array Value), w.heap[b]? = some (.cells cs t (0, 0)) → o + vs.length ≤ cs.size →
    ∃ cs' : Array Value, (w.setCells b o vs).heap[b]? = some (.cells cs' t (0, 0)) ∧ cs'.size = cs.size ∧ (∀ j, j < vs.length → cs'[o + j]? = vs[j]?) ∧ ∀ q, (q < o ∨ o + vs.length ≤ q) → cs'[q]? = cs[q]?
  | [], _, _, cs, h, _ => ⟨cs, h, rfl, fun j hj => absurd hj (Nat.not_lt_zero _), fun _ _ => rfl⟩
  | v :: vs, o, w, cs, h, hl => by
    simp only [List.length_cons] at hl
    have h1 := Joins.block_setCell (i := o) h v
    obtain ⟨cs', e1, e2, e3, e4⟩ := setCells_block b t vs (o + 1) (w.setCell ⟨b, o, none⟩ v) (cs.setIfInBounds o v) h1 (by simp; omega)
    rw [World.setCells]
    refine ⟨cs', e1, e2.trans (by simp), fun j hj => ?_, fun q hq => ?_⟩
    · cases j with
      | zero =>
        rw [e4 (o + 0) (by omega)]
        simp [show o < cs.size by omega]
      | succ j =>
        have := e3 j (by simpa using hj)
        rw [show o + (j + 1) = o + 1 + j by omega, this]
        simp
    · simp only [List.length_cons] at hq
      rw [e4 q (by omega)]
      rw [Array.getElem?_setIfInBounds]
      rw [if_neg (by omega)]

/-- Only how a region ends in order is asked of it. -/
theorem wp_normal {P : Program} {c : Code} {Q : Exit → Act → World → Prop} {a : Act} {w : World} (h : c.wp P (fun e a w => match e with | .normal => Q .normal a w | _ => False) a w) : c.wp P Q a w :=
  wp_mono h (fun e a w q => by cases e <;> first | exact q | exact q.elim)

theorem heap_own {W W' : World} {row : Option Nat} {B : Nat} (hg : W.grownBy W' row) (hr : ∀ r, row = some r → B ≤ r ∧ ∃ o : Obj, W.heap[r]? = some o ∧ o.isCells = false) {j : Nat} {c : Array Value} {ty : TypeId} {f : Nat × Nat} (hj : W.heap[j]? = some (.cells c ty f)) : W'.heap[j]? = some (.cells c ty f) := by
  refine (hg.block j (Array.getElem?_eq_some_iff.1 hj).1 (fun e => ?_)).trans hj
  obtain ⟨_, o, ho, hc⟩ := hr j e.symm
  rw [hj] at ho; cases ho; cases hc

theorem row_own {W W' : World} {row : Option Nat} {B base n : Nat} {e : TypeId} {v : Value} {xs : List Value} (hg : W.grownBy W' row) (hr : ∀ r, row = some r → B ≤ r ∧ ∃ o : Obj, W.heap[r]? = some o ∧ o.isCells = false) (h : W.ownsRow base e 1 v n xs) : W'.ownsRow base e 1 v n xs := by
  obtain ⟨h0, h1 | ⟨g, cap, cur, hv, hb, hh, rest⟩⟩ := h
  · exact ⟨h0, .inl h1⟩
  · exact ⟨h0, .inr ⟨g, cap, cur, hv, hb, heap_own hg hr hh, rest⟩⟩

/-- Between two rounds of viewEvent's loop. -/
structure EvI (w W3 : World) (nm : Nat → ByteArray) (s : Nat) (num mb : Int) (N m : Nat) (pre : List (Mb m)) (W : World) : Prop where
  size : N + 4 ≤ W.heap.size
  same : ∀ j, j < N + 4 → j ≠ N + 2 → W.heap[j]? = W3.heap[j]?
  ev : ∃ v, W.heap[N + 2]? = some (.cells (evCells (nm s) num mb v) 62 (0, 0)) ∧ W.ownsRow (N + 4) 9 1 v pre.length (pre.map fun k => .string (nm k.1))
  below : Below N w W

theorem EvI.own (w W3 : World) (nm : Nat → ByteArray) (s : Nat) (num mb : Int) (m : Nat) : OwnFrom (w.heap.size + 4) (EvI w W3 nm s num mb w.heap.size m) := fun pre W W' row h hg hr => by
  obtain ⟨h1, h2, ⟨v, h3, h4⟩, h5⟩ := h
  refine ⟨Nat.le_trans h1 hg.size, fun j hj hne => (hg.block j (by omega) (fun e => by have := (hr j e.symm).1; omega)).trans (h2 j hj hne), ⟨v, heap_own hg hr h3, row_own hg hr h4⟩, ?_⟩
  exact (ownFrom_below (β := Unit) (Nat.le_refl _) (by omega)) () W W' row h5 hg hr

theorem ev_one_of (name : ByteArray) (num mb : Int) (ms : Value) (h : ms.oneCell' = true) : ∀ v ∈ (evCells name num mb ms).toList, v.oneCell' = true := by
  intro v hv
  simp only [evCells, List.mem_cons, List.not_mem_nil, or_false] at hv
  rcases hv with rfl | rfl | rfl | rfl | rfl | rfl | rfl | rfl | rfl | rfl | rfl | rfl | rfl | rfl | rfl <;> first | exact h | rfl

theorem store_ev_of (w : World) (b : Nat) (name : ByteArray) (num mb : Int) (ms : Value) (h : ms.oneCell' = true) (cs : Array Value) (hb : w.heap[b]? = some (.cells cs 62 (0, 0))) (hc : cs.size = 15) :
    (storeCells ⟨b, 0, none⟩ (evCells name num mb ms).toList).run Ybad.prog w = .ok () (w.setCells b 0 (evCells name num mb ms).toList) := by
  have := run_storeCells_cells (P := Ybad.prog) b 0 (evCells name num mb ms).toList 0 w
    (fun j hj => by
      rw [Joins.cell_of_block hb]
      have : j < cs.size := by rw [hc]; simpa [evCells] using hj
      simp [this])
    (fun j hj => Joins.unfrozen_of_block hb _) (ev_one_of name num mb ms h)
  simpa using this

theorem put_ev (w : World) (b : Nat) (name : ByteArray) (num mb : Int) (ms : Value) (cs : Array Value) (hb : w.heap[b]? = some (.cells cs 62 (0, 0))) (hc : cs.size = 15) :
    (w.setCells b 0 (evCells name num mb ms).toList).heap[b]? = some (.cells (evCells name num mb ms) 62 (0, 0)) := by
  obtain ⟨cs', e1, e2, e3, _⟩ := setCells_block b 62 (evCells name num mb ms).toList 0 w cs hb (by rw [hc]; show 0 + 15 ≤ 15; omega)
  rw [e1]
  have : cs' = evCells name num mb ms := by
    apply Array.ext_getElem?
    intro q
    by_cases hq : q < 15
    · have := e3 q hq
      rw [Nat.zero_add] at this
      rw [this]; simp
    · rw [Array.getElem?_eq_none (by rw [e2, hc]; omega), Array.getElem?_eq_none (by show 15 ≤ q; omega)]
  rw [this]

/-- A round of it. -/
theorem ev_next {w W4 : World} {nm : Nat → ByteArray} {s : Nat} {num mb : Int} {m : Nat} {pre : List (Mb m)} {k : Mb m} {W w1 : World} {b0 : Nat} {v : Value} {g cp : Nat} (hb0 : b0 ≤ w.heap.size)
    (z1 : w.heap.size + 4 ≤ W.heap.size) (z2 : ∀ j, j < w.heap.size + 4 → j ≠ w.heap.size + 2 → W.heap[j]? = W4.heap[j]?) (z3 : W.heap[w.heap.size + 2]? = some (.cells (evCells (nm s) num mb v) 62 (0, 0)))
    (z4 : W.ownsRow (w.heap.size + 4) 9 1 v pre.length (pre.map fun q : Mb m => .string (nm q.1))) (z5 : Below w.heap.size w W)
    (hown1 : w1.ownsRow (w.heap.size + 4) 9 1 (.slice (some ⟨g, 0, none⟩) (pre.length + 1) cp) (pre.length + 1) ((pre.map fun q : Mb m => .string (nm q.1)) ++ [.string (nm k.1)]))
    (hgrow : (W.alloc (.cells #[.string (nm k.1)] 9)).drew.grownBy w1 v.ownBlock) :
    KeepsOthers W (w1.setCell ⟨w.heap.size + 1 + 1, 4, none⟩ (.slice (some ⟨g, 0, none⟩) (pre.length + 1) cp)) ∧ Below b0 W (w1.setCell ⟨w.heap.size + 1 + 1, 4, none⟩ (.slice (some ⟨g, 0, none⟩) (pre.length + 1) cp)) ∧
      EvI w W4 nm s num mb w.heap.size m (pre ++ [k]) (w1.setCell ⟨w.heap.size + 1 + 1, 4, none⟩ (.slice (some ⟨g, 0, none⟩) (pre.length + 1) cp)) := by
  have hob : ∀ j, Value.ownBlock v = some j → w.heap.size + 4 ≤ j := fun j hj => by
    rcases z4.2 with ⟨e, _⟩ | ⟨g, cp, cur, e, hg, _⟩
    · rw [e] at hj; simp [Value.ownBlock] at hj
    · rw [e] at hj; simp [Value.ownBlock] at hj; omega
  have hkeep : ∀ j, j < w.heap.size + 4 → w1.heap[j]? = W.heap[j]? := fun j hj =>
    (hgrow.block j (by show j < (W.alloc _).heap.size; simp; omega) (fun e => by have := hob j e.symm; omega)).trans (Below.heap_alloc W _ j (by omega))
  have hsz1 : W.heap.size ≤ w1.heap.size := by have : (W.alloc (.cells #[.string (nm k.1)] 9)).heap.size ≤ w1.heap.size := hgrow.size; simp at this; omega
  have hb1 : ∀ c, c ≤ w.heap.size → Below c W w1 := fun c hc => (((Below.refl c W).alloc (by omega) _).drew).grown hgrow (by show c ≤ (W.alloc _).heap.size; simp; omega) (fun j e => by have := hob j e; omega)
  have ho1 : KeepsOthers W w1 := ((KeepsOthers.alloc _ _).trans (KeepsOthers.drew _)).trans (KeepsOthers.of_grownBy hgrow (fun j o e ho => by
    rcases z4.2 with ⟨e1, _⟩ | ⟨g, cp, cur, e1, hg, hcur, _⟩
    · rw [e1] at e; simp [Value.ownBlock] at e
    · rw [e1] at e
      simp [Value.ownBlock] at e
      subst e
      have ho' : (W.alloc (.cells #[.string (nm k.1)] 9)).heap[g]? = some o := ho
      rw [Below.heap_alloc _ _ _ (Array.getElem?_eq_some_iff.1 hcur).1, hcur] at ho'
      cases ho'; rfl))
  have hs2 : (w1.setCell ⟨w.heap.size + 1 + 1, 4, none⟩ (.slice (some ⟨g, 0, none⟩) (pre.length + 1) cp)).heap.size = w1.heap.size := by simp [World.setCell]
  have hgB : w.heap.size + 4 ≤ g := by
    rcases hown1.2 with ⟨e, _⟩ | ⟨g', cp', cur, e, hg, _⟩
    · cases e
    · cases e; exact hg
  refine ⟨ho1.trans (KeepsOthers.setCell _ _ _), (hb1 b0 hb0).setCell (p := ⟨w.heap.size + 1 + 1, 4, none⟩) (by show b0 ≤ w.heap.size + 1 + 1; omega) _, ⟨by rw [hs2]; omega, fun j h1 h2 => (Below.heap_setCell _ _ _ _ (by show j ≠ w.heap.size + 1 + 1; omega)).trans ((hkeep j h1).trans (z2 j h1 h2)), ⟨.slice (some ⟨g, 0, none⟩) (pre.length + 1) cp, ?_, ?_⟩, z5.trans ((hb1 _ (Nat.le_refl _)).setCell (p := ⟨w.heap.size + 1 + 1, 4, none⟩) (by show w.heap.size ≤ w.heap.size + 1 + 1; omega) _)⟩⟩
  · exact (Joins.block_setCell (i := 4) ((hkeep (w.heap.size + 2) (by omega)).trans z3) _).trans (by simp [evCells])
  · rw [List.length_append, List.map_append]
    rcases hown1 with ⟨e0, ⟨e, _⟩ | ⟨g', cp', cur, e, hg, hcur, rest⟩⟩
    · cases e
    · cases e
      exact ⟨e0, .inr ⟨g, cp, cur, rfl, hg, (Below.heap_setCell _ _ _ _ (by show g ≠ w.heap.size + 1 + 1; omega)).trans hcur, rest⟩⟩

set_option linter.unusedSimpArgs false in
set_option maxRecDepth 100000 in
set_option maxHeartbeats 2000000 in
theorem viewEvent (b0 pb nb n s x : Nat) (num : Int) (mb : Int) (nm : Nat → ByteArray) (w : World) (h0 : 0 < b0) (hb0 : b0 ≤ w.heap.size) (hT : TabAt 0 Lib.deBruijn64tab w) (hpw : pb < w.heap.size) (hnw : nb < w.heap.size)
    (hn : n ≤ 64) (hs : s < n) (hx : x < 2 ^ n)
    (p1 : w.cell? ⟨pb, 1, none⟩ = some (.slice (some ⟨nb, 0, none⟩) n n)) (p2 : w.cell? ⟨pb, 2, none⟩ = some (.int .i64 s))
    (p19 : w.cell? ⟨pb, 19, none⟩ = some (.int .u64 num)) (p20 : w.cell? ⟨pb, 20, none⟩ = some (.int .i64 mb))
    (p21 : w.cell? ⟨pb, 21, none⟩ = some (.int .u64 x)) (p22 : w.cell? ⟨pb, 22, none⟩ = some (.int .u64 0))
    (hnm : ∀ k, k < n → w.cell? ⟨nb, k, none⟩ = some (.string (nm k))) :
    Calls Ybad.prog 8 #[.pointer (some ⟨pb, 0, none⟩)] w fun e w' => ∃ ms, e = .returned (.agg (evCells (nm s) num mb ms)) ∧ w'.ownsRow w.heap.size 9 1 ms (mem x).length ((mem x).map fun k => .string (nm k)) ∧ Below w.heap.size w w' := by
  refine (callsIn_wide (n := 5)).1 ?_
  refine callsIn_of_wp_marks Ybad.func8 rfl trivial ?_ rfl
  simp only [Ybad.ntmps8, List.size_toArray, List.length_cons, List.length_nil, Nat.reduceAdd, Nat.reduceSub, Array.replicate_succ, Array.replicate_zero, List.push_toArray, List.append_toArray, List.nil_append, List.cons_append]
  have hsn : (s : Int) < (n : Int) := by omega
  refine wpIn_wide.2 ?_
  go_wp2
  have hW2e : ∃ W2, (w.alloc (.cells #[.pointer (some ⟨pb, 0, none⟩)] 37)).alloc (.cells evZero 62) = W2 := ⟨_, rfl⟩
  obtain ⟨W2, hW2⟩ := hW2e
  have hB2 : Below w.heap.size w W2 := by rw [← hW2]; exact ((Below.refl _ _).alloc (Nat.le_refl _) _).alloc (by simp) _
  have hS2 : W2.heap.size = w.heap.size + 1 + 1 := by rw [← hW2]; simp
  have hbx : W2.heap[w.heap.size]? = some (.cells #[.pointer (some ⟨pb, 0, none⟩)] 37 (0, 0)) := by rw [← hW2, alloc_at, if_neg (by simp), alloc_at, if_pos rfl]
  have hrs : W2.heap[w.heap.size + 1]? = some (.cells evZero 62 (0, 0)) := by rw [← hW2, alloc_at, if_pos (by simp)]
  rw [hW2]
  have cb : W2.cell? ⟨w.heap.size, 0, none⟩ = some (.pointer (some ⟨pb, 0, none⟩)) := (Joins.cell_of_block hbx 0).trans (by simp)
  have q1 := (hB2.cell (p := ⟨pb, 1, none⟩) hpw).trans p1
  have q2 := (hB2.cell (p := ⟨pb, 2, none⟩) hpw).trans p2
  have q19 := (hB2.cell (p := ⟨pb, 19, none⟩) hpw).trans p19
  have q20 := (hB2.cell (p := ⟨pb, 20, none⟩) hpw).trans p20
  have q21 := (hB2.cell (p := ⟨pb, 21, none⟩) hpw).trans p21
  have q22 := (hB2.cell (p := ⟨pb, 22, none⟩) hpw).trans p22
  have hns := (hB2.cell (p := ⟨nb, s, none⟩) hnw).trans (hnm s hs)
  have A : Aside (Below w.heap.size w W2 ∧ (∀ k, k < n → w.cell? ⟨nb, k, none⟩ = some (.string (nm k))) ∧ W2.heap[w.heap.size]? = some (.cells #[.pointer (some ⟨pb, 0, none⟩)] 37 (0, 0)) ∧ W2.heap[w.heap.size + 1]? = some (.cells evZero 62 (0, 0))) := ⟨hB2, hnm, hbx, hrs⟩
  have l0 : w.heap.size < W2.heap.size := by omega
  have l1 : w.heap.size + 1 < W2.heap.size := by omega
  have l2 : pb < W2.heap.size := by omega
  have l3 : nb < W2.heap.size := by omega
  have r19 : ∀ o : Obj, (W2.alloc o).cell? ⟨pb, 19, none⟩ = some (.int .u64 num) := fun o => (World.cell?_alloc_past o pb 19 l2).trans q19
  have r20 : ∀ o : Obj, (W2.alloc o).cell? ⟨pb, 20, none⟩ = some (.int .i64 mb) := fun o => (World.cell?_alloc_past o pb 20 l2).trans q20
  have r0 : ∀ o : Obj, (W2.alloc o).cell? ⟨w.heap.size, 0, none⟩ = some (.pointer (some ⟨pb, 0, none⟩)) := fun o => (World.cell?_alloc_past o _ 0 l0).trans cb
  have r1 : ∀ o : Obj, (W2.alloc o).cell? ⟨pb, 1, none⟩ = some (.slice (some ⟨nb, 0, none⟩) n n) := fun o => (World.cell?_alloc_past o pb 1 l2).trans q1
  have r2 : ∀ o : Obj, (W2.alloc o).cell? ⟨pb, 2, none⟩ = some (.int .i64 s) := fun o => (World.cell?_alloc_past o pb 2 l2).trans q2
  have rs : ∀ o : Obj, (W2.alloc o).cell? ⟨nb, s, none⟩ = some (.string (nm s)) := fun o => (World.cell?_alloc_past o nb s l3).trans hns
  clear hB2 hnm hbx hrs p1 p2 p19 p20 p21 p22 hW2
  have hst : Sem.run Ybad.prog (storeCells ⟨w.heap.size + 1 + 1, 0, none⟩ (evCells (nm s) num mb (.slice none 0 0)).toList) (W2.alloc (.cells evZero 62)).drew = .ok () ((W2.alloc (.cells evZero 62)).drew.setCells (w.heap.size + 1 + 1) 0 (evCells (nm s) num mb (.slice none 0 0)).toList) :=
    store_ev _ _ _ _ _ evZero (by show (W2.alloc (.cells evZero 62)).heap[w.heap.size + 1 + 1]? = _; rw [alloc_at, if_pos hS2.symm]) rfl
  have hS3' : ∀ w' : World, w' = ((W2.alloc (.cells evZero 62)).drew.setCells (w.heap.size + 1 + 1) 0 (evCells (nm s) num mb (.slice none 0 0)).toList) → (w'.cell? ⟨w.heap.size, 0, none⟩ = some (.pointer (some ⟨pb, 0, none⟩)) ∧ w'.cell? ⟨pb, 1, none⟩ = some (.slice (some ⟨nb, 0, none⟩) n n) ∧ w'.cell? ⟨pb, 2, none⟩ = some (.int .i64 s) ∧ w'.cell? ⟨nb, s, none⟩ = some (.string (nm s)) ∧ w'.cell? ⟨pb, 19, none⟩ = some (.int .u64 num) ∧ w'.cell? ⟨pb, 20, none⟩ = some (.int .i64 mb)) := by
    intro w' hw'
    subst hw'
    have hf := (setCells_frame (w.heap.size + 1 + 1) (evCells (nm s) num mb (.slice none 0 0)).toList 0 (W2.alloc (.cells evZero 62)).drew).2.2.2.2
    have hc : ∀ q i, q ≠ w.heap.size + 1 + 1 → ((W2.alloc (.cells evZero 62)).drew.setCells (w.heap.size + 1 + 1) 0 (evCells (nm s) num mb (.slice none 0 0)).toList).cell? ⟨q, i, none⟩ = (W2.alloc (.cells evZero 62)).cell? ⟨q, i, none⟩ := fun q i hq => World.cell?_of_block (w := (W2.alloc (.cells evZero 62)).drew) (hf q hq)
    exact ⟨(hc _ _ (by omega)).trans (r0 _), (hc _ _ (by omega)).trans (r1 _), (hc _ _ (by omega)).trans (r2 _), (hc _ _ (by omega)).trans (rs _), (hc _ _ (by omega)).trans (r19 _), (hc _ _ (by omega)).trans (r20 _)⟩
  have hS3 := hS3' _ rfl
  clear hS3'
  refine wp_normal ?_
  go_region_held (fun w' => w'.cell? ⟨w.heap.size, 0, none⟩ = some (.pointer (some ⟨pb, 0, none⟩)) ∧ w'.cell? ⟨pb, 1, none⟩ = some (.slice (some ⟨nb, 0, none⟩) n n) ∧ w'.cell? ⟨pb, 2, none⟩ = some (.int .i64 s) ∧ w'.cell? ⟨nb, s, none⟩ = some (.string (nm s)) ∧ w'.cell? ⟨pb, 19, none⟩ = some (.int .u64 num) ∧ w'.cell? ⟨pb, 20, none⟩ = some (.int .i64 mb)) (first | (with_reducible exact hS3) | go_keep) (fail)
  have hz21 : W2.cell? ⟨pb, 21, none⟩ = some (.int .u64 x) := q21
  obtain ⟨W3, hW3⟩ : ∃ W3, (W2.alloc (Obj.cells evZero 62)).drew.setCells (w.heap.size + 1 + 1) 0 (evCells (nm s) num mb (Value.slice none 0 0)).toList = W3 := ⟨_, rfl⟩
  have hfr := setCells_frame (w.heap.size + 1 + 1) (evCells (nm s) num mb (.slice none 0 0)).toList 0 (W2.alloc (.cells evZero 62)).drew
  have hkeep3 : ∀ k, k < w.heap.size + 1 + 1 → W3.heap[k]? = W2.heap[k]? := fun k hk => by
    rw [← hW3]
    exact (hfr.2.2.2.2 k (by omega)).trans (Below.heap_alloc _ _ _ (by omega))
  have hS4 : W3.heap.size = w.heap.size + 1 + 1 + 1 := by rw [← hW3]; exact hfr.2.2.2.1.trans (by show (W2.alloc _).heap.size = _; simp; omega)
  have hB3 : Below w.heap.size w W3 := by
    rw [← hW3]
    exact (((A.out.1.alloc (by omega) _).drew)).trans ⟨hfr.1, hfr.2.1, hfr.2.2.1, Nat.le_of_eq hfr.2.2.2.1.symm, fun k hk => hfr.2.2.2.2 k (by omega)⟩
  have hev : W3.heap[w.heap.size + 1 + 1]? = some (.cells (evCells (nm s) num mb (.slice none 0 0)) 62 (0, 0)) := by
    rw [← hW3]
    obtain ⟨cs', e1, e2, e3, _⟩ := setCells_block (w.heap.size + 1 + 1) 62 (evCells (nm s) num mb (.slice none 0 0)).toList 0 (W2.alloc (.cells evZero 62)).drew evZero (by show (W2.alloc (.cells evZero 62)).heap[w.heap.size + 1 + 1]? = _; rw [alloc_at, if_pos hS2.symm]) (by show 0 + 15 ≤ 15; omega)
    rw [e1]
    have : cs' = evCells (nm s) num mb (.slice none 0 0) := by
      apply Array.ext_getElem?
      intro q
      by_cases hq : q < 15
      · have := e3 q hq
        rw [Nat.zero_add] at this
        rw [this]; simp
      · rw [Array.getElem?_eq_none (by rw [e2]; show 15 ≤ q; omega), Array.getElem?_eq_none (by show 15 ≤ q; omega)]
    rw [this]
  have hcell3 : ∀ q i, q < w.heap.size + 1 + 1 → W3.cell? ⟨q, i, none⟩ = W2.cell? ⟨q, i, none⟩ := fun q i hq => World.cell?_of_block (hkeep3 q hq)
  have s0 := (hcell3 w.heap.size 0 (by omega)).trans cb
  have s21 := (hcell3 pb 21 (by omega)).trans q21
  have s22 := (hcell3 pb 22 (by omega)).trans q22
  have s1 := (hcell3 pb 1 (by omega)).trans q1
  have hrs3 := (hkeep3 (w.heap.size + 1) (by omega)).trans A.out.2.2.2
  have hbx3 := (hkeep3 w.heap.size (by omega)).trans A.out.2.2.1
  rw [hW3]
  clear hS3 hst r0 r1 r2 rs r19 r20 hW3 hfr hz21
  show Exit.then _ _ Exit.normal _ _
  go_wp2_with (go_at_call 6; refine (all _ _ _).mono ?_; rintro e w' ⟨rfl, rfl⟩)
  refine (wpIn_wide (n := 5)).1 ?_
  have hT3 : TabAt 0 Lib.deBruijn64tab W3 := tab_below hT hB3 (by omega)
  have hW4b : Below w.heap.size w (W3.alloc (.cells #[.int .u64 x, .int .u64 0] 26)) := hB3.alloc (by omega) _
  have hbx4 : (W3.alloc (.cells #[.int .u64 x, .int .u64 0] 26)).heap[w.heap.size + 1 + 1 + 1]? = some (.cells #[.int .u64 x, .int .u64 0] 26 (0, 0)) := by rw [alloc_at, if_pos hS4.symm]
  have hx64 : x < 2 ^ 64 := Nat.lt_of_lt_of_le hx (Nat.pow_le_pow_right (by omega) hn)
  have hmn : ∀ k, k ∈ mem x → k < n := fun k hk => by
    have hb := mem_bit x k hk
    exact Nat.lt_of_not_le fun h => by
      rw [Nat.testBit_lt_two_pow (Nat.lt_of_lt_of_le hx (Nat.pow_le_pow_right (by omega) h))] at hb
      cases hb
  obtain ⟨i9, hi9, hz0, hz1, hz2⟩ := info_parts info9
  refine wpIn_rangeFunc_ownF rfl (by omega) (gf := 9) (lb := #[.pointer (some ⟨w.heap.size + 1 + 1 + 1, 0, none⟩)]) rfl trivial (enters_of Ybad.func9 (by kernel_rfl) rfl)
    (all_stops 4 (by omega) b0 (w.heap.size + 1 + 1 + 1) x n hx64 hmn (W3.alloc (.cells #[.int .u64 x, .int .u64 0] 26)) h0 (tab_below hT hW4b (by omega)) (by simp; omega) ((Joins.cell_of_block hbx4 0).trans (by simp)) ((Joins.cell_of_block hbx4 1).trans (by simp)))
    belowK_t (belowK_b (by simp; omega)) (Below.refl _ _) (fun _ => rfl)
    (EvI w (W3.alloc (.cells #[.int .u64 x, .int .u64 0] 26)) nm s num mb w.heap.size n) (fun _ _ _ => False)
    ?hI (fun _ _ _ _ _ hs _ _ => hs) ?hI0 (fun k => { tmps := #[.pointer (some ⟨pb, 0, none⟩), .pointer (some ⟨w.heap.size, 0, none⟩), .pointer (some ⟨w.heap.size + 1, 0, none⟩), .pointer (some ⟨w.heap.size + 1 + 1, 0, none⟩), .int .i64 k.1, .pointer (some ⟨pb, 0, none⟩), .pointer (some ⟨pb, 0, none⟩), .pointer (some ⟨pb, 1, none⟩), .slice (some ⟨nb, 0, none⟩) n n, .pointer (some ⟨pb, 0, none⟩), .pointer (some ⟨pb, 0, none⟩), .pointer (some ⟨pb, 2, none⟩), .int .i64 s, .pointer (some ⟨nb, s, none⟩), .string (nm s), .pointer (some ⟨pb, 0, none⟩), .pointer (some ⟨pb, 0, none⟩), .pointer (some ⟨pb, 19, none⟩), .pointer (some ⟨pb, 19, none⟩), .agg #[.int .u64 num, .int .i64 mb], .agg (evCells (nm s) num mb (.slice none 0 0)), .pointer (some ⟨pb, 0, none⟩), .pointer (some ⟨pb, 0, none⟩), .pointer (some ⟨pb, 19, none⟩), .pointer (some ⟨pb, 21, none⟩), .agg #[.int .u64 x, .int .u64 0], .func (.func 9) #[] #[.pointer (some ⟨w.heap.size + 1 + 1 + 1, 0, none⟩)], .int .i64 k.1, undef, undef, undef, undef, undef, undef, undef, undef, undef, undef, undef, undef, undef], defers := [] }) ?assign ?body ?done ?stop
  case hI => 
    have := EvI.own w (W3.alloc (.cells #[.int .u64 x, .int .u64 0] 26)) nm s num mb n
    rw [show (W3.alloc (.cells #[.int .u64 x, .int .u64 0] 26)).heap.size = w.heap.size + 4 by simp; omega]
    exact this
  case hI0 =>
    refine ⟨by simp; omega, fun _ _ _ => rfl, ⟨.slice none 0 0, ?_, World.ownsRow_nil _ _ _ _⟩, hW4b⟩
    rw [alloc_at, if_neg (by omega)]; exact hev
  case assign =>
    intro l k W K hK
    gi_wp2
    exact hK
  case body =>
    rintro l pre k W hI hlen
    obtain ⟨z1, z2, ⟨v, z3, z4⟩, z5⟩ := hI
    have e4 : W.cell? ⟨w.heap.size + 1 + 1, 4, none⟩ = some v := (Joins.cell_of_block z3 4).trans (by simp [evCells])
    have e4f : W.frozen? ⟨w.heap.size + 1 + 1, 4, none⟩ = false := Joins.unfrozen_of_block z3 4
    have eb : W.cell? ⟨w.heap.size, 0, none⟩ = some (.pointer (some ⟨pb, 0, none⟩)) := (World.cell?_of_block (z2 w.heap.size (by omega) (by omega))).trans ((World.cell?_alloc_past _ _ _ (by omega)).trans s0)
    have ep : W.cell? ⟨pb, 1, none⟩ = some (.slice (some ⟨nb, 0, none⟩) n n) := (World.cell?_of_block (z2 pb (by omega) (by omega))).trans ((World.cell?_alloc_past _ _ _ (by omega)).trans s1)
    have en : W.cell? ⟨nb, k.1, none⟩ = some (.string (nm k.1)) := (z5.cell (p := ⟨nb, k.1, none⟩) hnw).trans (A.out.2.1 k.1 k.2)
    have hkn : (k.1 : Int) < (n : Int) := by have := k.2; omega
    gi_wp2
    refine wpIn_region_held (S := fun w' => w'.cell? ⟨w.heap.size, 0, none⟩ = some (.pointer (some ⟨pb, 0, none⟩)) ∧ w'.cell? ⟨pb, 1, none⟩ = some (.slice (some ⟨nb, 0, none⟩) n n) ∧ w'.cell? ⟨nb, k.1, none⟩ = some (.string (nm k.1))) (by kernel_rfl) (by kernel_rfl) ⟨eb, ep, en⟩ (fun hHeld => ?_)
    refine wpAnyH_take (i := 0) (oi := _) (v := .pointer (some ⟨w.heap.size + 1 + 1, 4, none⟩)) rfl (by kernel_rfl) (by kernel_rfl) (by kernel_rfl) (fun _ _ _ h => h) (Or.inl ⟨by rfl, ?hyld⟩) hHeld ?_
    case hyld => intro w' hSw; obtain ⟨_, _, _⟩ := hSw; go_simp
    simp only [Act.put, List.setIfInBounds_toArray, List.set_cons_zero, List.set_cons_succ]
    refine wpAnyH_take (i := 2) (oi := _) (v := .pointer (some ⟨pb, 0, none⟩)) rfl (by kernel_rfl) (by kernel_rfl) (by kernel_rfl) (fun _ _ _ h => h) (Or.inl ⟨by rfl, ?hyld⟩) hHeld ?_
    case hyld => intro w' hSw; obtain ⟨_, _, _⟩ := hSw; go_simp
    simp only [Act.put, List.setIfInBounds_toArray, List.set_cons_zero, List.set_cons_succ]
    refine wpAnyH_take (i := 3) (oi := _) (v := .pointer (some ⟨pb, 0, none⟩)) rfl (by kernel_rfl) (by kernel_rfl) (by kernel_rfl) (fun _ _ _ h => h) (Or.inl ⟨by rfl, ?hyld⟩) hHeld ?_
    case hyld => intro w' hSw; obtain ⟨_, _, _⟩ := hSw; go_simp
    simp only [Act.put, List.setIfInBounds_toArray, List.set_cons_zero, List.set_cons_succ]
    refine wpAnyH_take (i := 4) (oi := _) (v := .pointer (some ⟨pb, 1, none⟩)) rfl (by kernel_rfl) (by kernel_rfl) (by kernel_rfl) (fun _ _ _ h => h) (Or.inl ⟨by rfl, ?hyld⟩) hHeld ?_
    case hyld => intro w' hSw; obtain ⟨_, _, _⟩ := hSw; go_simp
    simp only [Act.put, List.setIfInBounds_toArray, List.set_cons_zero, List.set_cons_succ]
    refine wpAnyH_take (i := 5) (oi := _) (v := .slice (some ⟨nb, 0, none⟩) n n) rfl (by kernel_rfl) (by kernel_rfl) (by kernel_rfl) (fun _ _ _ h => h) (Or.inl ⟨by rfl, ?hyld⟩) hHeld ?_
    case hyld => intro w' hSw; obtain ⟨_, _, _⟩ := hSw; go_simp
    simp only [Act.put, List.setIfInBounds_toArray, List.set_cons_zero, List.set_cons_succ]
    refine wpAnyH_take (i := 6) (oi := _) (v := .int .i64 k.1) rfl (by kernel_rfl) (by kernel_rfl) (by kernel_rfl) (fun _ _ _ h => h) (Or.inl ⟨by rfl, ?hyld⟩) hHeld ?_
    case hyld => intro w' hSw; obtain ⟨_, _, _⟩ := hSw; go_simp
    simp only [Act.put, List.setIfInBounds_toArray, List.set_cons_zero, List.set_cons_succ]
    refine wpAnyH_take (i := 7) (oi := _) (v := .pointer (some ⟨nb, k.1, none⟩)) rfl (by kernel_rfl) (by kernel_rfl) (by kernel_rfl) (fun _ _ _ h => h) (Or.inl ⟨by rfl, ?hyld⟩) hHeld ?_
    case hyld => intro w' hSw; obtain ⟨_, _, _⟩ := hSw; go_simp
    simp only [Act.put, List.setIfInBounds_toArray, List.set_cons_zero, List.set_cons_succ]
    refine wpAnyH_take (i := 8) (oi := _) (v := .string (nm k.1)) rfl (by kernel_rfl) (by kernel_rfl) (by kernel_rfl) (fun _ _ _ h => h) (Or.inl ⟨by rfl, ?hyld⟩) hHeld ?_
    case hyld => intro w' hSw; obtain ⟨_, _, _⟩ := hSw; go_simp
    simp only [Act.put, List.setIfInBounds_toArray, List.set_cons_zero, List.set_cons_succ]
    have hplus : ∀ o : Obj, (W.alloc o).cell? ⟨w.heap.size, 0, none⟩ = some (.pointer (some ⟨pb, 0, none⟩)) ∧ (W.alloc o).cell? ⟨pb, 1, none⟩ = some (.slice (some ⟨nb, 0, none⟩) n n) ∧ (W.alloc o).cell? ⟨nb, k.1, none⟩ = some (.string (nm k.1)) := fun o => ⟨(World.cell?_alloc_past _ _ _ (by omega)).trans eb, (World.cell?_alloc_past _ _ _ (by omega)).trans ep, (World.cell?_alloc_past _ _ _ (by omega)).trans en⟩
    have e4a : ∀ o : Obj, (W.alloc o).cell? ⟨w.heap.size + 1 + 1, 4, none⟩ = some v := fun o => (World.cell?_alloc_past _ _ _ (by omega)).trans e4
    refine wpAnyH_ready (rs := [1, 9]) (by kernel_rfl) (by simp) ?_
    refine AllReadyH.cons rfl (fun K hK1 => ?_) (AllReadyH.cons rfl (fun K hK1 => ?_) AllReadyH.nil)
    · go_simp
      refine hK1.out _ _ hHeld (fun _ => ?_)
      clear hK1 K
      refine wpAnyH_ready (rs := [9]) (by kernel_rfl) (by simp) ?_
      refine AllReadyH.cons rfl (fun K hK9 => ?_) AllReadyH.nil
      go_simp
      refine hK9.out _ _ (hplus _) (fun _ => ?_)
      clear hK9 K
      refine wpAnyH_ready (rs := [10]) (by kernel_rfl) (by simp) ?_
      refine AllReadyH.cons rfl (fun K hK10 => ?_) AllReadyH.nil
      have hplen : pre.length < 64 := Nat.lt_of_lt_of_le hlen (mem_length x)
      refine step_append_own rfl (.tmp 29) (.tmp 37) 22 rfl (w.heap.size + 4) 9 i9 (.string ⟨#[]⟩) 1 16 Ybad.underlying22 hi9 hz0 hz1 hz2 rfl (by decide) v pre.length (pre.map fun q : Mb n => .string (nm q.1)) rfl (show (W.alloc (.cells #[.string (nm k.1)] 9)).drew.ownsRow (w.heap.size + 4) 9 1 v pre.length (pre.map fun q : Mb n => .string (nm q.1)) from z4.alloc _) ⟨W.heap.size, 0, none⟩ 1 1 [.string (nm k.1)] rfl rfl ?ha1 ?ha2 ?ha3 ?ha4 ?ha5 ?_
      case ha1 => exact cell_one_new W (.string (nm k.1)) 9
      case ha2 => intro u hu; simp at hu; subst hu; rfl
      case ha3 => simp [maxLen]; omega
      case ha4 => omega
      case ha5 => simp; omega
      intro v' w1 hown1 hgrow
      have hob : ∀ j, Value.ownBlock v = some j → w.heap.size + 4 ≤ j := fun j hj => by
        rcases z4.2 with ⟨e, _⟩ | ⟨g, cp, cur, e, hg, _⟩
        · rw [e] at hj; simp [Value.ownBlock] at hj
        · rw [e] at hj; simp [Value.ownBlock] at hj; omega
      have hkeep : ∀ j, j < w.heap.size + 4 → w1.heap[j]? = W.heap[j]? := fun j hj =>
        (hgrow.block j (by show j < (W.alloc _).heap.size; simp; omega) (fun e => by have := hob j e.symm; omega)).trans (Below.heap_alloc W _ j (by omega))
      have hsz1 : W.heap.size ≤ w1.heap.size := by have : (W.alloc (.cells #[.string (nm k.1)] 9)).heap.size ≤ w1.heap.size := hgrow.size; simp at this; omega
      have z31 := (hkeep (w.heap.size + 2) (by omega)).trans z3
      have hcw : ∀ q i, q < w.heap.size + 4 → w1.cell? ⟨q, i, none⟩ = W.cell? ⟨q, i, none⟩ := fun q i hq => World.cell?_of_block (hkeep q hq)
      have g4 := (hcw (w.heap.size + 1 + 1) 4 (by omega)).trans e4
      have g4f : w1.frozen? ⟨w.heap.size + 1 + 1, 4, none⟩ = false := Joins.unfrozen_of_block z31 4
      obtain ⟨g, cp1, hv⟩ := Joins.ownsRow_form hown1 (by omega)
      refine hK10.out _ _ ⟨(hcw w.heap.size 0 (by omega)).trans eb, (hcw pb 1 (by omega)).trans ep, (hcw nb k.1 (by omega)).trans en⟩ (fun hHeld3 => ?_)
      clear hK10 K
      simp only [Act.put, List.setIfInBounds_toArray, List.set_cons_zero, List.set_cons_succ]
      refine wpAnyH_take (i := 11) (oi := _) (v := .pointer (some ⟨w.heap.size + 1 + 1, 4, none⟩)) rfl (by kernel_rfl) (by kernel_rfl) (by kernel_rfl) (fun _ _ _ h => h) (Or.inl ⟨by rfl, ?hyld⟩) hHeld3 ?_
      case hyld => intro w' hSw; obtain ⟨_, _, _⟩ := hSw; go_simp
      simp only [Act.put, List.setIfInBounds_toArray, List.set_cons_zero, List.set_cons_succ]
      refine wpAnyH_ready (rs := [12]) (by kernel_rfl) (by simp) ?_
      refine AllReadyH.cons rfl (fun K hK12 => ?_) AllReadyH.nil
      subst hv
      go_simp
      refine hK12.out _ _ ?hS12 (fun _ => ?_)
      case hS12 => exact ⟨(World.cell?_setCell_far _ _ _ _ (by show w.heap.size + 1 + 1 ≠ w.heap.size; omega)).trans ((hcw w.heap.size 0 (by omega)).trans eb), (World.cell?_setCell_far _ _ _ _ (by show w.heap.size + 1 + 1 ≠ pb; omega)).trans ((hcw pb 1 (by omega)).trans ep), (World.cell?_setCell_far _ _ _ _ (by show w.heap.size + 1 + 1 ≠ nb; omega)).trans ((hcw nb k.1 (by omega)).trans en)⟩
      clear hK12 K
      refine wpAnyH_done (by kernel_rfl) ?_ _
      exact ev_next hb0 z1 z2 z3 z4 z5 hown1 hgrow
    · go_simp
      refine hK1.out _ _ (hplus _) (fun _ => ?_)
      clear hK1 K
      refine wpAnyH_ready (rs := [1]) (by kernel_rfl) (by simp) ?_
      refine AllReadyH.cons rfl (fun K hK9 => ?_) AllReadyH.nil
      go_simp
      refine hK9.out _ _ (hplus _) (fun _ => ?_)
      clear hK9 K
      refine wpAnyH_ready (rs := [10]) (by kernel_rfl) (by simp) ?_
      refine AllReadyH.cons rfl (fun K hK10 => ?_) AllReadyH.nil
      have hplen : pre.length < 64 := Nat.lt_of_lt_of_le hlen (mem_length x)
      refine step_append_own rfl (.tmp 29) (.tmp 37) 22 rfl (w.heap.size + 4) 9 i9 (.string ⟨#[]⟩) 1 16 Ybad.underlying22 hi9 hz0 hz1 hz2 rfl (by decide) v pre.length (pre.map fun q : Mb n => .string (nm q.1)) rfl (show (W.alloc (.cells #[.string (nm k.1)] 9)).drew.ownsRow (w.heap.size + 4) 9 1 v pre.length (pre.map fun q : Mb n => .string (nm q.1)) from z4.alloc _) ⟨W.heap.size, 0, none⟩ 1 1 [.string (nm k.1)] rfl rfl ?ha1 ?ha2 ?ha3 ?ha4 ?ha5 ?_
      case ha1 => exact cell_one_new W (.string (nm k.1)) 9
      case ha2 => intro u hu; simp at hu; subst hu; rfl
      case ha3 => simp [maxLen]; omega
      case ha4 => omega
      case ha5 => simp; omega
      intro v' w1 hown1 hgrow
      have hob : ∀ j, Value.ownBlock v = some j → w.heap.size + 4 ≤ j := fun j hj => by
        rcases z4.2 with ⟨e, _⟩ | ⟨g, cp, cur, e, hg, _⟩
        · rw [e] at hj; simp [Value.ownBlock] at hj
        · rw [e] at hj; simp [Value.ownBlock] at hj; omega
      have hkeep : ∀ j, j < w.heap.size + 4 → w1.heap[j]? = W.heap[j]? := fun j hj =>
        (hgrow.block j (by show j < (W.alloc _).heap.size; simp; omega) (fun e => by have := hob j e.symm; omega)).trans (Below.heap_alloc W _ j (by omega))
      have hsz1 : W.heap.size ≤ w1.heap.size := by have : (W.alloc (.cells #[.string (nm k.1)] 9)).heap.size ≤ w1.heap.size := hgrow.size; simp at this; omega
      have z31 := (hkeep (w.heap.size + 2) (by omega)).trans z3
      have hcw : ∀ q i, q < w.heap.size + 4 → w1.cell? ⟨q, i, none⟩ = W.cell? ⟨q, i, none⟩ := fun q i hq => World.cell?_of_block (hkeep q hq)
      have g4 := (hcw (w.heap.size + 1 + 1) 4 (by omega)).trans e4
      have g4f : w1.frozen? ⟨w.heap.size + 1 + 1, 4, none⟩ = false := Joins.unfrozen_of_block z31 4
      obtain ⟨g, cp1, hv⟩ := Joins.ownsRow_form hown1 (by omega)
      refine hK10.out _ _ ⟨(hcw w.heap.size 0 (by omega)).trans eb, (hcw pb 1 (by omega)).trans ep, (hcw nb k.1 (by omega)).trans en⟩ (fun hHeld3 => ?_)
      clear hK10 K
      simp only [Act.put, List.setIfInBounds_toArray, List.set_cons_zero, List.set_cons_succ]
      refine wpAnyH_take (i := 11) (oi := _) (v := .pointer (some ⟨w.heap.size + 1 + 1, 4, none⟩)) rfl (by kernel_rfl) (by kernel_rfl) (by kernel_rfl) (fun _ _ _ h => h) (Or.inl ⟨by rfl, ?hyld⟩) hHeld3 ?_
      case hyld => intro w' hSw; obtain ⟨_, _, _⟩ := hSw; go_simp
      simp only [Act.put, List.setIfInBounds_toArray, List.set_cons_zero, List.set_cons_succ]
      refine wpAnyH_ready (rs := [12]) (by kernel_rfl) (by simp) ?_
      refine AllReadyH.cons rfl (fun K hK12 => ?_) AllReadyH.nil
      subst hv
      go_simp
      refine hK12.out _ _ ?hS12 (fun _ => ?_)
      case hS12 => exact ⟨(World.cell?_setCell_far _ _ _ _ (by show w.heap.size + 1 + 1 ≠ w.heap.size; omega)).trans ((hcw w.heap.size 0 (by omega)).trans eb), (World.cell?_setCell_far _ _ _ _ (by show w.heap.size + 1 + 1 ≠ pb; omega)).trans ((hcw pb 1 (by omega)).trans ep), (World.cell?_setCell_far _ _ _ _ (by show w.heap.size + 1 + 1 ≠ nb; omega)).trans ((hcw nb k.1 (by omega)).trans en)⟩
      clear hK12 K
      refine wpAnyH_done (by kernel_rfl) ?_ _
      exact ev_next hb0 z1 z2 z3 z4 z5 hown1 hgrow
  case done =>
    rintro D xs W hD hxs hI hK
    obtain ⟨z1, z2, ⟨v, z3, z4⟩, z5⟩ := hI
    have zr : W.heap[w.heap.size + 1]? = some (.cells evZero 62 (0, 0)) := (z2 _ (by omega) (by omega)).trans ((Below.heap_alloc _ _ _ (by omega)).trans hrs3)
    have hst2 : Sem.run Ybad.prog (storeCells ⟨w.heap.size + 1, 0, none⟩ (evCells (nm s) num mb v).toList) W = .ok () (W.setCells (w.heap.size + 1) 0 (evCells (nm s) num mb v).toList) :=
      store_ev_of _ _ _ _ _ _ (by rcases z4.2 with ⟨e, _⟩ | ⟨g, cp, cur, e, _⟩ <;> rw [e] <;> rfl) evZero zr rfl
    gi_wp2
    go_wp2_with (refine wpList_load_row rfl 62 (.tmp 3) rfl (w.heap.size + 1 + 1) rfl 62 _ (0, 0) _ z3 Ybad.underlying62 rfl size62 ?_)
    have hfr2 := setCells_frame (w.heap.size + 1) (evCells (nm s) num mb v).toList 0 W
    have hev2 : (W.setCells (w.heap.size + 1) 0 (evCells (nm s) num mb v).toList).heap[w.heap.size + 1]? = some (.cells (evCells (nm s) num mb v) 62 (0, 0)) := put_ev _ _ _ _ _ _ evZero zr rfl
    have hDD : w.heap.size + 4 ≤ D := by simp at hD; omega
    generalize W.setCells (w.heap.size + 1) 0 (evCells (nm s) num mb v).toList = W9 at *
    have hK9 := (hfr2.2.2.2.2 D (by omega)).trans hK
    refine ⟨by simp, .inl ⟨_, _, rfl, run_takeDeferred hK9, ?_⟩⟩
    have hg9 : (W9.putObj D (.deferred none)).heap[w.heap.size + 1]? = some (.cells (evCells (nm s) num mb v) 62 (0, 0)) :=
      ((grownBy_putObj' W9 D (.deferred none)).block (w.heap.size + 1) (Array.getElem?_eq_some_iff.1 hev2).1 (fun e => by cases e; omega)).trans hev2
    have hB9 : Below w.heap.size w W9 := z5.trans ⟨hfr2.1, hfr2.2.1, hfr2.2.2.1, Nat.le_of_eq hfr2.2.2.2.1.symm, fun k hk => hfr2.2.2.2.2 k (by omega)⟩
    refine ⟨_, results_cell_row Ybad.results8 _ _ (w.heap.size + 1) 62 _ (0, 0) _ rfl hg9 Ybad.underlying62 rfl size62, v, rfl, ?_, hB9.trans (belowK_b (w := w) (Nat.le_refl _) W9 D _ _ (by omega) hK9 rfl rfl)⟩
    have hlen2 : xs.length = (mem x).length := by rw [← hxs, List.length_map]
    have hmap2 : (xs.map fun q : Mb n => Value.string (nm q.1)) = (mem x).map fun k => .string (nm k) := by rw [← hxs, List.map_map]; rfl
    rw [hlen2, hmap2] at z4
    obtain ⟨e0, ⟨e1, e2⟩ | ⟨g, cap, cur, e1, e2, e3, e4⟩⟩ := z4
    · exact ⟨e0, .inl ⟨e1, e2⟩⟩
    · have h9 := (hfr2.2.2.2.2 g (by omega)).trans e3
      exact ⟨e0, .inr ⟨g, cap, cur, e1, by omega, ((grownBy_putObj' W9 D (.deferred none)).block g (Array.getElem?_eq_some_iff.1 h9).1 (fun e => by cases e; rw [hK9] at h9; cases h9)).trans h9, e4⟩⟩
  case stop =>
    rintro D c pre W _ _ h _
    exact h.elim
end Go.Proofs.YbulkceouDoor
