/-
  LawS4030CPieces: what its first loops keep (seat b4030aZD).
-/
import Derived.Test.YbulkcelaGreatDoorSup
import Derived.Test.YbulkcelaGreatDoorLawT
namespace Go.Proofs.YbulkcelaGreatDoor
open Go.RowKit Go.MapKept Go.Lib Go.Shelf Go.Maps Go.Sort

/-- The rows in memory. -/
def ArgR (w : World) (B : Nat) (a : Option Addr) (n : Nat) (M : Nat → Nat) (C : Nat → Int) : Prop := ∀ i, i < n → ∃ b off, a = some ⟨b, off, none⟩ ∧ b < B ∧ w.cell? ⟨b, off + i * 2, none⟩ = some (.int .u8 (M i : Nat)) ∧ w.cell? ⟨b, off + i * 2 + 1, none⟩ = some (.int .i32 (C i)) ∧ M i ≤ 255 ∧ -2147483648 ≤ C i ∧ C i ≤ 2147483647
/-- The contracts in memory. -/
def ArgC (w : World) (B : Nat) (a : Option Addr) (n : Nat) (M : Nat → Nat) (s e : Nat → Int) : Prop := ∀ i, i < n → ∃ b off, a = some ⟨b, off, none⟩ ∧ b < B ∧ w.cell? ⟨b, off + i * 3, none⟩ = some (.int .u8 (M i : Nat)) ∧ w.cell? ⟨b, off + i * 3 + 1, none⟩ = some (.int .i16 (s i)) ∧ w.cell? ⟨b, off + i * 3 + 2, none⟩ = some (.int .i16 (e i)) ∧ M i ≤ 255 ∧ (-32768 ≤ s i ∧ s i ≤ 32767) ∧ (-32768 ≤ e i ∧ e i ≤ 32767)
theorem ArgR.below {w w' : World} {B n : Nat} {a : Option Addr} {M : Nat → Nat} {C : Nat → Int} (h : ArgR w B a n M C) (hb : Below B w w') : ArgR w' B a n M C := fun i hi => by
  obtain ⟨b, off, e, h1, h2, h3, h4⟩ := h i hi
  exact ⟨b, off, e, h1, (hb.cell (p := ⟨b, off + i * 2, none⟩) h1).trans h2, (hb.cell (p := ⟨b, off + i * 2 + 1, none⟩) h1).trans h3, h4⟩
theorem ArgC.below {w w' : World} {B n : Nat} {a : Option Addr} {M : Nat → Nat} {s e : Nat → Int} (h : ArgC w B a n M s e) (hb : Below B w w') : ArgC w' B a n M s e := fun i hi => by
  obtain ⟨b, off, ea, h1, h2, h3, h4, h5⟩ := h i hi
  exact ⟨b, off, ea, h1, (hb.cell (p := ⟨b, off + i * 3, none⟩) h1).trans h2, (hb.cell (p := ⟨b, off + i * 3 + 1, none⟩) h1).trans h3, (hb.cell (p := ⟨b, off + i * 3 + 2, none⟩) h1).trans h4, h5⟩

theorem setCells_block (b : Nat) (t : TypeId) : ∀ (vs : List Value) (o : Nat) (w : World) (cs : Array Value), w.heap[b]? = some (.cells cs t (0, 0)) → o + vs.length ≤ cs.size →
    ∃ cs' : Array Value, (w.setCells b o vs).heap[b]? = some (.cells cs' t (0, 0)) ∧ cs'.size = cs.size ∧ (∀ j, j < vs.length → cs'[o + j]? = vs[j]?) ∧ ∀ q, (q < o ∨ o + vs.length ≤ q) → cs'[q]? = cs[q]?
  | [], _, _, cs, h, _ => ⟨cs, h, rfl, fun j hj => absurd hj (Nat.not_lt_zero _), fun _ _ => rfl⟩
  | v :: vs, o, w, cs, h, hl => by
    simp only [List.length_cons] at hl
    have h1 := Joins.block_setCell (i := o) h v
    obtain ⟨cs', e1, e2, e3, e4⟩ := setCells_block b t vs (o + 1) (w.setCell ⟨b, o, none⟩ v) (cs.setIfInBounds o v) h1 (by simp; omega)
    rw [World.setCells]
    refine ⟨cs', e1, e2.trans (by simp), fun j hj => ?_, fun q hq => ?_⟩
    · cases j with
      | zero =>
        rw [Nat.add_zero, e4 o (.inl (by omega)), Array.getElem?_setIfInBounds, if_pos rfl, if_pos (by omega)]
        rfl
      | succ j =>
        rw [show o + (j + 1) = o + 1 + j by omega, e3 j (by simpa using hj)]
        rfl
    · simp only [List.length_cons] at hq
      rw [e4 q (by omega), Array.getElem?_setIfInBounds, if_neg (by omega)]

/-- A contract that the law has laid. -/
structure CN (w : World) (N : Nat) (V : Nat → Nat) (S E : Nat → Int) (i : Nat) : Prop where
  v3 : V i < 3
  tgt : ∃ tb sb, tb < w.heap.size ∧ sb < w.heap.size ∧ sb ≠ N ∧ tb ≠ N ∧ w.cell? ⟨N, i * 9 + 2, none⟩ = some (.map (some tb)) ∧ MapL w tb [(aS, .slice (some ⟨sb, 0, none⟩) 1 1)] ∧ w.cell? ⟨sb, 0, none⟩ = some (.string (valS (V i)))
  c3 : w.cell? ⟨N, i * 9 + 3, none⟩ = some (.int .u64 0)
  c4 : w.cell? ⟨N, i * 9 + 4, none⟩ = some (.int .i64 (S i))
  c5 : w.cell? ⟨N, i * 9 + 5, none⟩ = some (.pointer none)
  c6 : w.cell? ⟨N, i * 9 + 6, none⟩ = some (.int .u64 0)
  c7 : w.cell? ⟨N, i * 9 + 7, none⟩ = some (.int .i64 (E i))
  c8 : w.cell? ⟨N, i * 9 + 8, none⟩ = some (.pointer none)

theorem CN.con {w : World} {N i : Nat} {V : Nat → Nat} {S E : Nat → Int} (h : CN w N V S E i) (h0 : S i ≠ 0) : Con w N w.heap.size V S E i := by
  obtain ⟨tb, sb, t1, t2, _, _, t3, t4, t5⟩ := h.tgt
  exact ⟨h.v3, ⟨tb, sb, t1, t2, t3, t4, t5⟩, h.c3, h.c4, h.c5, h.c6, h.c7, h.c8, h0⟩
theorem CN.later {w w' : World} {N i : Nat} {V : Nat → Nat} {S E : Nat → Int} (h : CN w N V S E i) (hz : w.heap.size ≤ w'.heap.size) (hk : ∀ k, k < w.heap.size → k ≠ N → w'.heap[k]? = w.heap[k]?) (hN : ∀ j, j < 9 → w'.cell? ⟨N, i * 9 + j, none⟩ = w.cell? ⟨N, i * 9 + j, none⟩) : CN w' N V S E i := by
  obtain ⟨v3, ⟨tb, sb, t1, t2, t3, t4, t5, t6, t7⟩, c3, c4, c5, c6, c7, c8⟩ := h
  exact ⟨v3, ⟨tb, sb, by omega, by omega, t3, t4, (hN 2 (by omega)).trans t5, t6.block (hk tb t1 t4), (cell_block_eq (hk sb t2 t3)).trans t7⟩, (hN 3 (by omega)).trans c3, (hN 4 (by omega)).trans c4, (hN 5 (by omega)).trans c5, (hN 6 (by omega)).trans c6, (hN 7 (by omega)).trans c7, (hN 8 (by omega)).trans c8⟩
theorem CN.below {w w' : World} {N i : Nat} {V : Nat → Nat} {S E : Nat → Int} (h : CN w N V S E i) (hNw : N < w.heap.size) (hb : Below w.heap.size w w') : CN w' N V S E i := h.later hb.size (fun k hk _ => hb.block k hk) (fun _ _ => cell_block_eq (hb.block N hNw))

/-- Whether the value j is accepted by one of the first i contracts. -/
def accB (V : Nat → Nat) (i j : Nat) : Bool := (List.range i).any fun k => V k == j
theorem accB_succ (V : Nat → Nat) (i j : Nat) : accB V (i + 1) j = (accB V i j || V i == j) := by
  unfold accB
  rw [List.range_succ, List.any_append]
  simp
theorem accB_true {V : Nat → Nat} {i j : Nat} : accB V i j = true ↔ ∃ k, k < i ∧ V k = j := by
  unfold accB
  rw [List.any_eq_true]
  constructor
  · rintro ⟨k, hk, e⟩
    exact ⟨k, List.mem_range.1 hk, by simpa using e⟩
  · rintro ⟨k, hk, e⟩
    exact ⟨k, List.mem_range.2 hk, by simpa using e⟩

theorem valS_c (j : Nat) : (⟨#[99]⟩ : ByteArray) ≠ valS j := by
  unfold valS
  split
  · decide
  · split <;> decide
theorem valS_e (j : Nat) : (⟨#[]⟩ : ByteArray) ≠ valS j := by
  unfold valS
  split
  · decide
  · split <;> decide

/-- Between two contracts. -/
structure L1 (w : World) (tb ab N len : Nat) (V : Nat → Nat) (S E : Nat → Int) (i : Nat) (wr : World) : Prop where
  below : Below w.heap.size w wr
  lo : w.heap.size ≤ tb ∧ tb < ab ∧ ab < N
  base : wr.heap[tb]? = some (.cells #[.int .u64 0, .int .i64 100000, .pointer none] 29 (0, 0))
  acc : ∃ cur : Array Value, wr.heap[ab]? = some (.cells cur 32 (0, 0)) ∧ cur.size = 3 ∧ ∀ j, j < 3 → cur[j]? = some (.bool (accB V i j))
  blk : ∃ cs : Array Value, wr.heap[N]? = some (.cells cs 42 (0, 0)) ∧ cs.size = len * 9 ∧ ∀ j, cs[0]? ≠ some (.string (valS j))
  con : ∀ j, j < i → CN wr N V S E j

section
variable {w wr w' : World} {tb ab N len : Nat} {V : Nat → Nat} {S E : Nat → Int} {i : Nat}

theorem L1.ltN (h : L1 w tb ab N len V S E i wr) : N < wr.heap.size := by
  obtain ⟨cs, h1, _⟩ := h.blk
  exact (Array.getElem?_eq_some_iff.1 h1).1

theorem L1.later (h : L1 w tb ab N len V S E i wr) (hb : Below wr.heap.size wr w') : L1 w tb ab N len V S E i w' := by
  have hN := h.ltN
  have hlo := h.lo
  obtain ⟨cur, a1, a2⟩ := h.acc
  obtain ⟨cs, b1, b2⟩ := h.blk
  exact ⟨h.below.trans (hb.mono h.below.size), hlo, (hb.block tb (by omega)).trans h.base, ⟨cur, (hb.block ab (by omega)).trans a1, a2⟩, ⟨cs, (hb.block N hN).trans b1, b2⟩, fun j hj => (h.con j hj).below hN hb⟩

/-- A value is marked as accepted. -/
theorem L1.mark (h : L1 w tb ab N len V S E i wr) (hv : V i < 3) : ∃ cur : Array Value, (wr.setCell ⟨ab, V i, none⟩ (.bool true)).heap[ab]? = some (.cells cur 32 (0, 0)) ∧ cur.size = 3 ∧ ∀ j, j < 3 → cur[j]? = some (.bool (accB V (i + 1) j)) := by
  obtain ⟨cur, a1, a2, a3⟩ := h.acc
  refine ⟨_, Joins.block_setCell (i := V i) a1 (.bool true), by simpa using a2, fun j hj => ?_⟩
  rw [Array.getElem?_setIfInBounds, accB_succ]
  by_cases e : V i = j
  · subst e
    rw [if_pos rfl, if_pos (by omega)]
    simp
  · rw [if_neg e, a3 j hj]
    simp [e]

/-- A contract is laid. -/
theorem L1.lay {W : World} {r sb : Nat} (h : L1 w tb ab N len V S E i wr) (hi : i < len) (hv : V i < 3) {wx : World} (hx : wx.heap.size = wr.heap.size ∨ wr.heap.size ≤ wx.heap.size)
    (hxk : ∀ k, k < wr.heap.size → k ≠ ab → wx.heap[k]? = wr.heap[k]?) (hxb : Below w.heap.size w wx) (hxa : ∃ cur : Array Value, wx.heap[ab]? = some (.cells cur 32 (0, 0)) ∧ cur.size = 3 ∧ ∀ j, j < 3 → cur[j]? = some (.bool (accB V (i + 1) j)))
    (hW : Below wx.heap.size wx W) (hM : MapL W r [(aS, .slice (some ⟨sb, 0, none⟩) 1 1)]) (hs : W.cell? ⟨sb, 0, none⟩ = some (.string (valS (V i)))) :
    L1 w tb ab N len V S E (i + 1) (W.setCells N (i * 9) (conA r (S i) (E i)).toList) := by
  have hN := h.ltN
  have hlo := h.lo
  have hszx : wr.heap.size ≤ wx.heap.size := by omega
  have hszW := hW.size
  obtain ⟨cs, b1, b2, b3⟩ := h.blk
  have hWN : W.heap[N]? = some (.cells cs 42 (0, 0)) := (hW.block N (by omega)).trans ((hxk N hN (by omega)).trans b1)
  have hcl : (conA r (S i) (E i)).toList.length = 9 := rfl
  have hsb : sb ≠ N := fun e => by
    subst e
    rw [Joins.cell_of_block hWN] at hs
    exact b3 _ hs
  obtain ⟨cs', e1, e2, e3, e4⟩ := setCells_block N 42 (conA r (S i) (E i)).toList (i * 9) W cs hWN (by omega)
  obtain ⟨_, hg⟩ := setCells_low (b := N) (t := 42) (conA r (S i) (E i)).toList W (i * 9) cs hWN
  obtain ⟨w', hw'⟩ : ∃ w', W.setCells N (i * 9) (conA r (S i) (E i)).toList = w' := ⟨_, rfl⟩
  rw [hw'] at e1 hg ⊢
  have hk : ∀ k, k < W.heap.size → k ≠ N → w'.heap[k]? = W.heap[k]? := fun k h1 h2 => hg.block k h1 (fun e => h2 (by injection e))
  have hrN : r ≠ N := fun e => by
    subst e
    exact map_no_cells hM _ _ _ hWN
  have hsz' := hg.size
  obtain ⟨cur, a1, a2⟩ := hxa
  have hab : ab < W.heap.size := by omega
  have hbW : Below w.heap.size w W := hxb.trans (hW.mono hxb.size)
  have hcell : ∀ j, j < 9 → w'.cell? ⟨N, i * 9 + j, none⟩ = (conA r (S i) (E i)).toList[j]? := fun j hj => (Joins.cell_of_block e1 _).trans (e3 j (by omega))
  refine ⟨?_, hlo, ?_, ⟨cur, ?_, a2⟩, ⟨cs', e1, e2.trans b2, fun j => ?_⟩, fun j hj => ?_⟩
  · exact hbW.grown hg (by omega) (fun k e => by injection e with e; omega)
  · rw [hk tb (by omega) (by omega), hW.block tb (by omega), hxk tb (by omega) (by omega)]; exact h.base
  · rw [hk ab hab (by omega), hW.block ab (by omega)]; exact a1
  · by_cases ei : i = 0
    · subst ei
      have h0 := e3 0 (by omega)
      rw [Nat.zero_mul, Nat.add_zero] at h0
      rw [h0]
      intro e
      have e' : (⟨#[99]⟩ : ByteArray) = valS j := by simpa [conA] using e
      exact valS_c j e'
    · rw [e4 0 (.inl (by omega))]
      exact b3 j
  · by_cases ej : j = i
    · subst ej
      refine ⟨hv, ⟨r, sb, ?_, ?_, hsb, hrN, hcell 2 (by omega), hM.block (hk r hM.lt hrN), ?_⟩, hcell 3 (by omega), hcell 4 (by omega), hcell 5 (by omega), hcell 6 (by omega), hcell 7 (by omega), hcell 8 (by omega)⟩
      · have := hM.lt; omega
      · have := cell_lt' hs; omega
      · exact (cell_block_eq (hk sb (cell_lt' hs) hsb)).trans hs
    · have hc := h.con j (by omega)
      obtain ⟨v3, ⟨tb', sb', t1, t2, t3, t4, t5, t6, t7⟩, c3, c4, c5, c6, c7, c8⟩ := hc
      have hNc : ∀ q, q < 9 → w'.cell? ⟨N, j * 9 + q, none⟩ = wr.cell? ⟨N, j * 9 + q, none⟩ := fun q hq => by
        rw [Joins.cell_of_block e1, e4 _ (.inl (by omega)), Joins.cell_of_block b1]
      have htab : tb' ≠ ab := fun e => by
        subst e
        obtain ⟨cu, g1, _⟩ := h.acc
        exact map_no_cells t6 _ _ _ g1
      have hsab : sb' ≠ ab := fun e => by
        subst e
        obtain ⟨cu, g1, _, g3⟩ := h.acc
        rw [Joins.cell_of_block g1, g3 0 (by omega)] at t7
        cases t7
      have hkk : ∀ k, k < wr.heap.size → k ≠ ab → k ≠ N → w'.heap[k]? = wr.heap[k]? := fun k h1 h2 h3 => by rw [hk k (by omega) h3, hW.block k (by omega), hxk k h1 h2]
      exact ⟨v3, ⟨tb', sb', by omega, by omega, t3, t4, (hNc 2 (by omega)).trans t5, t6.block (hkk tb' t1 htab t4), (cell_block_eq (hkk sb' t2 hsab t3)).trans t7⟩, (hNc 3 (by omega)).trans c3, (hNc 4 (by omega)).trans c4, (hNc 5 (by omega)).trans c5, (hNc 6 (by omega)).trans c6, (hNc 7 (by omega)).trans c7, (hNc 8 (by omega)).trans c8⟩
end
end Go.Proofs.YbulkcelaGreatDoor
