/-
  NewKinds, at contracts of one name and one value each (seat b4030aZD): what it keeps.
-/
import Derived.Test.YbulkcelaGreatDoorMaps
import Derived.Test.YbulkcelaGreatDoorTime
import Derived.Deep.RegionLaw
namespace Go.Proofs.YbulkcelaGreatDoor
open Go.RowKit Go.MapKept

/-- 'append' onto a row of the call's own, as one step of a region that draws its order. -/
theorem step_append_own {P : Program} {ops : Array Oper} {o : Oper} {a : Act} {w : World} {K : Act → World → Prop} {Q : Exit → Act → World → Prop} {E : Prop}
    (hg : o.guard = none) (s x : Operand) (t : TypeId) (hop : o.op = Op.call { callee := Callee.builtin Builtin.append, args := #[s, x], argTypes := #[t, t] })
    (base : Nat) (e : TypeId) (i : TypeInfo) (z : Value) (size bytes : Nat) (h1 : P.underlying t = some (.slice e)) (h2 : P.info? e = some i) (h3 : i.zero = some z) (h4 : i.size = size) (h5 : i.bytes = bytes) (h6 : z.cells.size = size) (h7 : 0 < size)
    (v : Value) (n : Nat) (xs : List Value) (hs : a.eval s = v) (hown : w.ownsRow base e size v n xs)
    (ad : Addr) (m c : Nat) (news : List Value) (hx : a.eval x = .slice (some ad) m c) (hn : news.length = m * size) (hc : ∀ j u, news[j]? = some u → w.cell? (ad.add j) = some u) (h1c : ∀ u ∈ news, u.oneCell' = true)
    (b1 : n + m ≤ maxLen) (b2 : (n + m) * bytes ≤ 140737488355328) (hbase : base ≤ w.heap.size)
    (hK : ∀ v' w', w'.ownsRow base e size v' (n + m) (xs ++ news) → w.grownBy w' v.ownBlock → K (a.put o.dst v') w') :
    if Region.wanted o (yielded ops a.tmps) = true then Oper.wp P o a w K Q else E := by
  have hw : Region.wanted o (yielded ops a.tmps) = true := by simp [Region.wanted, hg]
  rw [if_pos hw]
  obtain ⟨v', w', hrun, r1, r2, _⟩ := run_append_own (P := P) w base t o.type e i z size bytes h1 h2 h3 h4 h5 h6 h7 v n xs hown ad m c news hn hc h1c b1 b2 hbase
  unfold Oper.wp
  simp [execOp, hop, resolve, invoke, builtin, hs, hx, hrun, Result.andThen]
  exact hK v' w' r1 r2

/-- The attribute's name. -/
def aS : ByteArray := ⟨#[97]⟩
theorem aS_size : aS.size ≤ maxLen := by decide
theorem valS_size (v : Nat) : (valS v).size ≤ maxLen := by
  unfold valS
  split
  · decide
  · split <;> decide
theorem valS_ne (v : Nat) : valS v ≠ ⟨#[]⟩ := by
  unfold valS
  split
  · decide
  · split <;> decide
theorem valS_inj {u v : Nat} (hu : u < 3) (hv : v < 3) (h : valS u = valS v) : u = v := by
  rcases (show u = 0 ∨ u = 1 ∨ u = 2 by omega) with rfl | rfl | rfl <;> rcases (show v = 0 ∨ v = 1 ∨ v = 2 by omega) with rfl | rfl | rfl <;> first | rfl | (exfalso; revert h; decide)

/-- A contract in memory: block N, contract i; its target in block tb i, of one name, whose values lie in block sb i. -/
structure Con (w : World) (N B : Nat) (V : Nat → Nat) (S E : Nat → Int) (i : Nat) : Prop where
  v3 : V i < 3
  tgt : ∃ tb sb, tb < B ∧ sb < B ∧ w.cell? ⟨N, i * 9 + 2, none⟩ = some (.map (some tb)) ∧ MapL w tb [(aS, .slice (some ⟨sb, 0, none⟩) 1 1)] ∧ w.cell? ⟨sb, 0, none⟩ = some (.string (valS (V i)))
  c3 : w.cell? ⟨N, i * 9 + 3, none⟩ = some (.int .u64 0)
  c4 : w.cell? ⟨N, i * 9 + 4, none⟩ = some (.int .i64 (S i))
  c5 : w.cell? ⟨N, i * 9 + 5, none⟩ = some (.pointer none)
  c6 : w.cell? ⟨N, i * 9 + 6, none⟩ = some (.int .u64 0)
  c7 : w.cell? ⟨N, i * 9 + 7, none⟩ = some (.int .i64 (E i))
  c8 : w.cell? ⟨N, i * 9 + 8, none⟩ = some (.pointer none)
  s0 : S i ≠ 0

theorem Con.below {w w' : World} {N B i : Nat} {V : Nat → Nat} {S E : Nat → Int} (h : Con w N B V S E i) (hN : N < B) (hb : Below B w w') : Con w' N B V S E i := by
  obtain ⟨v3, ⟨tb, sb, h1, h2, h3, h4, h5⟩, c3, c4, c5, c6, c7, c8, s0⟩ := h
  have hc : ∀ o, w'.cell? ⟨N, o, none⟩ = w.cell? ⟨N, o, none⟩ := fun o => hb.cell (p := ⟨N, o, none⟩) hN
  exact ⟨v3, ⟨tb, sb, h1, h2, (hc _).trans h3, h4.below hb h1, (hb.cell (p := ⟨sb, 0, none⟩) h2).trans h5⟩, (hc _).trans c3, (hc _).trans c4, (hc _).trans c5, (hc _).trans c6, (hc _).trans c7, (hc _).trans c8, s0⟩

def cptr (N i : Nat) : Value := .pointer (some ⟨N, i * 9, none⟩)

/-- The values that some contract accepts. -/
def accEnts (vs : List Nat) : Ents := vs.map fun v => (valS v, .bool true)

/-- What is accepted, by the first a contracts. -/
def Acc (w : World) (lo r : Nat) (V : Nat → Nat) (a : Nat) : Prop :=
  (a = 0 ∧ MapL w r []) ∨ (0 < a ∧ ∃ mb vs, lo < mb ∧ mb ≠ r ∧ MapL w r [(aS, .map (some mb))] ∧ MapL w mb (accEnts vs) ∧ ∀ v, v ∈ vs ↔ ∃ i, i < a ∧ V i = v)

theorem Acc.block {w w' : World} {lo r a : Nat} {V : Nat → Nat} (h : Acc w lo r V a) (hr : w'.heap[r]? = w.heap[r]?) (hm : ∀ mb, lo < mb → mb < w.heap.size → (∀ c t f, w.heap[mb]? ≠ some (.cells c t f)) → w'.heap[mb]? = w.heap[mb]?) : Acc w' lo r V a := by
  rcases h with ⟨h1, h2⟩ | ⟨h1, mb, vs, h2, h3, h4, h5, h6⟩
  · exact .inl ⟨h1, h2.block hr⟩
  · refine .inr ⟨h1, mb, vs, h2, h3, h4.block hr, h5.block (hm mb h2 h5.lt ?_), h6⟩
    obtain ⟨es, clock, hb, _⟩ := h5
    intro c t f hc
    rw [hb] at hc; cases hc

structure KRel (W0 : World) (N : Nat) (V : Nat → Nat) (a c : Nat) (fv : Value) (wr : World) : Prop where
  below : Below W0.heap.size W0 wr
  acc : Acc wr (W0.heap.size + 2) W0.heap.size V a
  idx : MapL wr (W0.heap.size + 1) []
  box : wr.heap[W0.heap.size + 2]? = some (.cells #[.map (some W0.heap.size), .slice none 0 0, fv, .map (some (W0.heap.size + 1)), .slice none 0 0, .int .i64 0, .slice none 0 0] 90 (0, 0))
  row : wr.ownsRow (W0.heap.size + 3) 92 1 fv c ((List.range c).map (cptr N))

theorem KRel.lo {W0 : World} {N a c : Nat} {V : Nat → Nat} {fv : Value} {w : World} (h : KRel W0 N V a c fv w) : W0.heap.size + 2 < w.heap.size := (Array.getElem?_eq_some_iff.1 h.box).1

theorem KRel.later {W0 : World} {N a c : Nat} {V : Nat → Nat} {fv : Value} {w w' : World} (h : KRel W0 N V a c fv w) (hb : Below w.heap.size w w') : KRel W0 N V a c fv w' := by
  have hlo := h.lo
  exact ⟨h.below.trans (hb.mono (by omega)), h.acc.block (hb.block _ (by omega)) (fun mb _ hm _ => hb.block mb hm), h.idx.block (hb.block _ (by omega)), (hb.block _ hlo).trans h.box, row_below h.row hb⟩

theorem own_block {w : World} {base : Nat} {e : TypeId} {size : Nat} {v : Value} {n : Nat} {xs : List Value} (h : w.ownsRow base e size v n xs) {g : Nat} (hg : v.ownBlock = some g) : base ≤ g ∧ ∃ cur, w.heap[g]? = some (.cells cur e (0, 0)) := by
  rcases h.2 with ⟨rfl, _⟩ | ⟨g', cap, cur, rfl, hb, hh, _⟩
  · simp [Value.ownBlock] at hg
  · simp [Value.ownBlock] at hg
    subst hg
    exact ⟨hb, cur, hh⟩

/-- A store into a map leaves the rows. -/
theorem row_map {w w' : World} {base : Nat} {e : TypeId} {size : Nat} {v : Value} {n r : Nat} {xs : List Value} {l : Ents} (h : w.ownsRow base e size v n xs) (hM : MapL w r l) (hg : w.grownBy w' (some r)) : w'.ownsRow base e size v n xs := by
  obtain ⟨h0, h1⟩ := h
  refine ⟨h0, ?_⟩
  rcases h1 with h1 | ⟨g, cap, cur, e1, e2, e3, e4⟩
  · exact .inl h1
  · refine .inr ⟨g, cap, cur, e1, e2, (hg.block g (Array.getElem?_eq_some_iff.1 e3).1 fun e => ?_).trans e3, e4⟩
    injection e with e
    subst e
    obtain ⟨es, clock, hb, _⟩ := hM
    rw [hb] at e3; cases e3

theorem KRel.push {W0 : World} {N a c : Nat} {V : Nat → Nat} {fv v' : Value} {w w3 : World} {o : Obj} (h : KRel W0 N V a c fv w)
    (hrow : w3.ownsRow (W0.heap.size + 3) 92 1 v' (c + 1) ((List.range c).map (cptr N) ++ [cptr N c])) (hg : (w.alloc o).drew.grownBy w3 fv.ownBlock) :
    KRel W0 N V a (c + 1) v' (w3.setCell ⟨W0.heap.size + 1 + 1, 2, none⟩ v') := by
  have hlt := h.lo
  have hsz : (w.alloc o).drew.heap.size = w.heap.size + 1 := by show (w.alloc o).heap.size = _; simp
  have keep : ∀ k, k < w.heap.size → fv.ownBlock ≠ some k → w3.heap[k]? = w.heap[k]? := fun k hk hne => by
    rw [hg.block k (by omega) (Ne.symm hne)]
    exact Below.heap_alloc _ _ _ hk
  have hne : ∀ k, k < W0.heap.size + 3 → fv.ownBlock ≠ some k := fun k hk e => by
    have := (own_block h.row e).1; omega
  have hset : ∀ k, k ≠ W0.heap.size + 2 → (w3.setCell ⟨W0.heap.size + 1 + 1, 2, none⟩ v').heap[k]? = w3.heap[k]? := fun k hk => Below.heap_setCell _ _ _ _ (by simpa using hk)
  refine ⟨?_, ?_, ?_, ?_, ?_⟩
  · refine h.below.trans ⟨hg.os, hg.tape, hg.output, ?_, fun k hk => ?_⟩
    · have := hg.size; simp [World.setCell]; omega
    · rw [hset k (by omega), keep k (by omega) (hne k (by omega))]
  · refine h.acc.block ?_ fun mb hmb hm hnc => ?_
    · rw [hset _ (by omega), keep _ (by omega) (hne _ (by omega))]
    · rw [hset _ (by omega), keep _ hm ?_]
      intro e
      obtain ⟨_, cur, hcur⟩ := own_block h.row e
      exact hnc _ _ _ hcur
  · refine h.idx.block ?_
    rw [hset _ (by omega), keep _ (by omega) (hne _ (by omega))]
  · have hb3 : w3.heap[W0.heap.size + 1 + 1]? = some (.cells #[.map (some W0.heap.size), .slice none 0 0, fv, .map (some (W0.heap.size + 1)), .slice none 0 0, .int .i64 0, .slice none 0 0] 90 (0, 0)) := by
      rw [keep _ (by omega) (hne _ (by omega))]; exact h.box
    have := Joins.block_setCell (i := 2) hb3 v'
    simpa using this
  · rw [List.range_succ, List.map_append]
    rcases hrow with ⟨e0, ⟨e, _⟩ | ⟨g, cp, cur, e, hb, hh, rest⟩⟩
    · cases e; exact ⟨by simp, .inl ⟨rfl, by omega⟩⟩
    · subst e
      exact ⟨by simp, .inr ⟨g, cp, cur, rfl, hb, (hset g (by omega)).trans hh, rest⟩⟩

theorem Ybaz.info92 : (Ybaz.prog.info? 92).map (fun i => (i.zero, i.size, i.bytes)) = some (some (.pointer none), 1, 8) := by kernel_rfl

theorem pushed {W0 : World} {N a c : Nat} {V : Nat → Nat} {fv v' : Value} {w w3 : World} {o : Obj} (h : KRel W0 N V a c fv w)
    (hrow : w3.ownsRow (W0.heap.size + 3) 92 1 v' (c + 1) ((List.range c).map (cptr N) ++ [cptr N c])) (hg : (w.alloc o).drew.grownBy w3 fv.ownBlock) :
    (∃ g cp, v' = .slice (some ⟨g, 0, none⟩) (c + 1) cp) ∧ w3.cell? ⟨W0.heap.size + 1 + 1, 2, none⟩ = some fv ∧ w3.frozen? ⟨W0.heap.size + 1 + 1, 2, none⟩ = false := by
  have hlt := h.lo
  have hb3 : w3.heap[W0.heap.size + 1 + 1]? = some (.cells #[.map (some W0.heap.size), .slice none 0 0, fv, .map (some (W0.heap.size + 1)), .slice none 0 0, .int .i64 0, .slice none 0 0] 90 (0, 0)) := by
    have hsz : (w.alloc o).drew.heap.size = w.heap.size + 1 := by show (w.alloc o).heap.size = _; simp
    rw [hg.block _ (by omega) (fun e => by have := (own_block h.row e.symm).1; omega)]
    show (w.alloc o).heap[_]? = _
    rw [Below.heap_alloc _ _ _ (by omega)]; exact h.box
  exact ⟨Joins.ownsRow_form hrow (by omega), by rw [Joins.cell_of_block hb3]; rfl, Joins.unfrozen_of_block hb3 2⟩

/-- Between the two stores: the name is there. -/
structure Half (W0 : World) (N : Nat) (V : Nat → Nat) (a c : Nat) (fv : Value) (wr : World) (mb : Nat) (vs : List Nat) : Prop where
  below : Below W0.heap.size W0 wr
  mlo : W0.heap.size + 2 < mb
  acc : MapL wr W0.heap.size [(aS, .map (some mb))]
  inner : MapL wr mb (accEnts vs)
  mem : ∀ v, v ∈ vs ↔ ∃ i, i < a ∧ V i = v
  idx : MapL wr (W0.heap.size + 1) []
  box : wr.heap[W0.heap.size + 2]? = some (.cells #[.map (some W0.heap.size), .slice none 0 0, fv, .map (some (W0.heap.size + 1)), .slice none 0 0, .int .i64 0, .slice none 0 0] 90 (0, 0))
  row : wr.ownsRow (W0.heap.size + 3) 92 1 fv c ((List.range c).map (cptr N))

theorem KRel.half {W0 : World} {N a c : Nat} {V : Nat → Nat} {fv : Value} {w : World} (h : KRel W0 N V a c fv w) (ha : 0 < a) : ∃ mb vs, Half W0 N V a c fv w mb vs := by
  rcases h.acc with ⟨h1, _⟩ | ⟨_, mb, vs, h2, h3, h4, h5, h6⟩
  · omega
  · exact ⟨mb, vs, h.below, h2, h4, h5, h6, h.idx, h.box, h.row⟩

/-- 'k.accepted[name] = make(map[string]bool)', at the first contract. -/
theorem KRel.first {W0 : World} {N c : Nat} {V : Nat → Nat} {fv : Value} {w : World} (h : KRel W0 N V 0 c fv w) :
    ∃ w', (Instr.mapUpdate 84 (.map (some W0.heap.size)) (.string aS) (.map (some w.heap.size))).run Ybaz.prog (w.alloc (.map #[] 0)) = .ok () w' ∧ Half W0 N V 0 c fv w' w.heap.size [] ∧ ∀ k, k < w.heap.size → k ≠ W0.heap.size → w'.heap[k]? = w.heap[k]? := by
  have hlo := h.lo
  have hacc : MapL w W0.heap.size [] := by
    rcases h.acc with ⟨_, h2⟩ | ⟨h1, _⟩
    · exact h2
    · omega
  have h1 : MapL (w.alloc (.map #[] 0)) W0.heap.size [] := hacc.block (Below.heap_alloc _ _ _ (by omega))
  obtain ⟨w', hrun, hM, hg, hsz⟩ := h1.store_new (t := 84) (e := 91) Ybaz.underlying84 aS_size (fun v hv => by cases hv) (.map (some w.heap.size))
  have hsz' : (w.alloc (.map #[] 0)).heap.size = w.heap.size + 1 := by simp
  have keep : ∀ k, k < w.heap.size → k ≠ W0.heap.size → w'.heap[k]? = w.heap[k]? := fun k hk hne => by
    rw [hg.block k (by omega) (fun e => hne (by injection e))]
    exact Below.heap_alloc _ _ _ hk
  refine ⟨w', hrun, ⟨?_, by omega, hM, (MapL.made w).block (hg.block _ (by omega) fun e => by injection e; omega), by simp, ?_, ?_, ?_⟩, keep⟩
  · exact h.below.trans ⟨hg.os, hg.tape, hg.output, by omega, fun k hk => keep k (by omega) (by omega)⟩
  · exact h.idx.block (keep _ (by omega) (by omega))
  · exact (keep _ (by omega) (by omega)).trans h.box
  · exact row_map (h.row.alloc _) h1 hg

/-- 'k.accepted[name][value] = true'. -/
theorem Half.store {W0 : World} {N a c mb : Nat} {V : Nat → Nat} {fv : Value} {w : World} {vs : List Nat} (h : Half W0 N V a c fv w mb vs) (hV : ∀ i, i ≤ a → V i < 3) :
    ∃ w', (Instr.mapUpdate 91 (.map (some mb)) (.string (valS (V a))) (.bool true)).run Ybaz.prog w = .ok () w' ∧ KRel W0 N V (a + 1) c fv w' ∧ (∀ k, k < w.heap.size → k ≠ mb → w'.heap[k]? = w.heap[k]?) ∧ w'.heap.size = w.heap.size := by
  have hlo : W0.heap.size + 2 < w.heap.size := (Array.getElem?_eq_some_iff.1 h.box).1
  have hmlo := h.mlo
  have key : ∃ w' vs', (Instr.mapUpdate 91 (.map (some mb)) (.string (valS (V a))) (.bool true)).run Ybaz.prog w = .ok () w' ∧ MapL w' mb (accEnts vs') ∧ (∀ v, v ∈ vs' ↔ v ∈ vs ∨ v = V a) ∧ w.grownBy w' (some mb) ∧ w'.heap.size = w.heap.size := by
    by_cases hin : V a ∈ vs
    · obtain ⟨w', h1, h2, h3, h4⟩ := h.inner.store_same (t := 91) (e := 4) Ybaz.underlying91 (s := valS (V a)) (v := .bool true) (List.mem_map.2 ⟨_, hin, rfl⟩)
      exact ⟨w', vs, h1, h2, fun v => ⟨.inl, fun h => h.elim id (fun e => e ▸ hin)⟩, h3, h4⟩
    · obtain ⟨w', h1, h2, h3, h4⟩ := h.inner.store_new (t := 91) (e := 4) Ybaz.underlying91 (s := valS (V a)) (valS_size _) (fun v hv => by
        obtain ⟨u, hu, e⟩ := List.mem_map.1 hv
        injection e with e1 _
        obtain ⟨i, hi, rfl⟩ := (h.mem u).1 hu
        have := valS_inj (hV i (by omega)) (hV a (Nat.le_refl _)) e1
        exact hin (this ▸ hu)) (.bool true)
      refine ⟨w', vs ++ [V a], h1, ?_, fun v => by simp, h3, h4⟩
      unfold accEnts at h2 ⊢
      rw [List.map_append]; exact h2
  obtain ⟨w', vs', hrun, hM, hvs, hg, hsz⟩ := key
  have keep : ∀ k, k < w.heap.size → k ≠ mb → w'.heap[k]? = w.heap[k]? := fun k hk hne => hg.block k hk (fun e => hne (by injection e))
  refine ⟨w', hrun, ⟨?_, .inr ⟨by omega, mb, vs', hmlo, by omega, h.acc.block (keep _ (by omega) (by omega)), hM, fun v => ?_⟩, ?_, ?_, ?_⟩, keep, hsz⟩
  · exact h.below.trans ⟨hg.os, hg.tape, hg.output, by omega, fun k hk => keep k (by omega) (by omega)⟩
  · rw [hvs v, h.mem v]
    constructor
    · rintro (⟨i, hi, e⟩ | e)
      · exact ⟨i, by omega, e⟩
      · exact ⟨a, by omega, e.symm⟩
    · rintro ⟨i, hi, e⟩
      by_cases hia : i = a
      · subst hia; exact .inr e.symm
      · exact .inl ⟨i, by omega, e⟩
  · exact h.idx.block (keep _ (by omega) (by omega))
  · exact (keep _ (by omega) (by omega)).trans h.box
  · exact row_map h.row h.inner hg
end Go.Proofs.YbulkcelaGreatDoor
