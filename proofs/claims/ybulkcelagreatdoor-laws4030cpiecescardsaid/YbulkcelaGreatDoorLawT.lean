/-
  LawS4030CPieces: a contract is laid (seat b4030aZD).
-/
import Derived.Test.YbulkcelaGreatDoorKinds
import Derived.Deep.RegionHeld3
namespace Go.Proofs.YbulkcelaGreatDoor
open Go.RowKit Go.MapKept Go.Lib Go.Shelf Go.Maps Go.Sort

def regL (n : Nat) : Code → Option Code
  | .region k o d => match k == n with
    | true => some (.region k o d)
    | false => none
  | .seq a b => match regL n a with
    | some c => some c
    | none => regL n b
  | .cond _ a b => match regL n a with
    | some c => some c
    | none => regL n b
  | .block _ c => regL n c
  | .scope c => regL n c
  | .loop c => regL n c
  | _ => none

noncomputable def lawR11 : Code := (Ybaz.f3.body.bind (regL 11)).getD .skip

theorem cell_lt' {w : World} {b o : Nat} {v : Value} (hc : w.cell? ⟨b, o, none⟩ = some v) : b < w.heap.size := by
  unfold World.cell? at hc
  by_cases hb : b < w.heap.size
  · exact hb
  · have : w.heap[b]? = none := Array.getElem?_eq_none (by omega)
    simp [this] at hc
theorem cell_eq' {w w' : World} {b o : Nat} (h : w'.heap[b]? = w.heap[b]?) : w'.cell? ⟨b, o, none⟩ = w.cell? ⟨b, o, none⟩ := by
  simp [World.cell?, h]

/-- All blocks but N are as they were. -/
structure KeptN (N : Nat) (w w' : World) : Prop where
  size : w.heap.size ≤ w'.heap.size
  block : ∀ k, k < w.heap.size → k ≠ N → w'.heap[k]? = w.heap[k]?
theorem KeptN.of {N : Nat} {w w' : World} (h : Below w.heap.size w w') : KeptN N w w' := ⟨h.size, fun k hk _ => h.block k hk⟩

/-- The i-th contract's place is there. -/
def GoodN (N i : Nat) (w : World) : Prop := ∃ cs : Array Value, w.heap[N]? = some (.cells cs 42 (0, 0)) ∧ i * 9 + 9 ≤ cs.size
theorem GoodN.block {N i : Nat} {w w' : World} (h : GoodN N i w) (hb : w'.heap[N]? = w.heap[N]?) : GoodN N i w' := by
  obtain ⟨cs, h1, h2⟩ := h
  exact ⟨cs, hb.trans h1, h2⟩
theorem GoodN.lt {N i : Nat} {w : World} (h : GoodN N i w) : N < w.heap.size := by
  obtain ⟨cs, h1, _⟩ := h
  exact (Array.getElem?_eq_some_iff.1 h1).1
theorem GoodN.set {N i o : Nat} {w : World} {u : Value} (h : GoodN N i w) : GoodN N i (w.setCell ⟨N, o, none⟩ u) := by
  obtain ⟨cs, h1, h2⟩ := h
  exact ⟨_, Joins.block_setCell (i := o) h1 u, by simpa using h2⟩

section
variable {tb cb N i : Nat} {s e : Int} {w W w' : World}
/-- The region's condition. -/
abbrev HeldC (N i : Nat) (w : World) (tb cb : Nat) (s e : Int) (W : World) : Prop := (KeptN N w W ∧ W.cell? ⟨tb, 0, none⟩ = some (.int .u64 0) ∧ W.cell? ⟨tb, 1, none⟩ = some (.int .i64 100000) ∧ W.cell? ⟨tb, 2, none⟩ = some (.pointer none) ∧ W.cell? ⟨cb, 1, none⟩ = some (.int .i16 s) ∧ W.cell? ⟨cb, 2, none⟩ = some (.int .i16 e)) ∧ GoodN N i W

theorem HeldC.keep (h : HeldC N i w tb cb s e W) (hz : W.heap.size ≤ w'.heap.size) (hk : ∀ b, b < W.heap.size → b ≠ N → (b < w.heap.size ∨ ∃ c t f, W.heap[b]? = some (.cells c t f)) → w'.heap[b]? = W.heap[b]?) (hG : GoodN N i w') (hN1 : tb ≠ N) (hN2 : cb ≠ N) : HeldC N i w tb cb s e w' := by
  obtain ⟨⟨h0, h1, h2, h3, h4, h5⟩, _⟩ := h
  have lt : ∀ {b o : Nat} {v : Value}, b ≠ N → W.cell? ⟨b, o, none⟩ = some v → w'.cell? ⟨b, o, none⟩ = some v := fun {b o v} hb hc => by
    refine (cell_eq' (hk b (cell_lt' hc) hb (.inr ?_))).trans hc
    unfold World.cell? at hc
    split at hc
    · rename_i c t f hh; exact ⟨c, t, f, hh⟩
    · cases hc
  exact ⟨⟨⟨Nat.le_trans h0.size hz, fun k hk1 hk2 => (hk k (Nat.lt_of_lt_of_le hk1 h0.size) hk2 (.inl hk1)).trans (h0.block k hk1 hk2)⟩, lt hN1 h1, lt hN1 h2, lt hN1 h3, lt hN2 h4, lt hN2 h5⟩, hG⟩
theorem HeldC.lays (hN : tb ≠ N ∧ cb ≠ N) (hl : Lays W w') (h : HeldC N i w tb cb s e W) : HeldC N i w tb cb s e w' := h.keep hl.below.size (fun b hb _ _ => hl.below.block b hb) (h.2.block (hl.below.block N h.2.lt)) hN.1 hN.2
theorem HeldC.drew (h : HeldC N i w tb cb s e W) : HeldC N i w tb cb s e W.drew := ⟨⟨⟨h.1.1.size, h.1.1.block⟩, h.1.2⟩, h.2.block rfl⟩
theorem HeldC.alloc {o : Obj} (hN : tb ≠ N ∧ cb ≠ N) (h : HeldC N i w tb cb s e W) : HeldC N i w tb cb s e (W.alloc o) := h.keep (by simp) (fun _ hb _ _ => Below.heap_alloc _ _ _ hb) (h.2.block (Below.heap_alloc _ _ _ h.2.lt)) hN.1 hN.2
theorem HeldC.upd {r : Nat} (hN : tb ≠ N ∧ cb ≠ N) (hg : W.grownBy w' (some r)) (hn : ∀ c t f, W.heap[r]? ≠ some (.cells c t f)) (hr : w.heap.size ≤ r) (h : HeldC N i w tb cb s e W) : HeldC N i w tb cb s e w' :=
  h.keep hg.size (fun b hb _ hc => hg.block b hb (fun e => by
    injection e with e
    subst e
    rcases hc with hc | ⟨c, t, f, hh⟩
    · omega
    · exact hn _ _ _ hh)) (h.2.block (hg.block N h.2.lt (fun e => by
      injection e with e
      subst e
      obtain ⟨cs, hh, _⟩ := h.2
      exact hn _ _ _ hh))) hN.1 hN.2
theorem HeldC.set {o : Nat} {u : Value} (hN : tb ≠ N ∧ cb ≠ N) (h : HeldC N i w tb cb s e W) : HeldC N i w tb cb s e (W.setCell ⟨N, o, none⟩ u) :=
  h.keep (by simp [World.setCell]) (fun b _ hc _ => Below.heap_setCell _ _ _ _ hc) h.2.set hN.1 hN.2

theorem HeldC.sets (hN : tb ≠ N ∧ cb ≠ N) {l : List Value} {o : Nat} (h : HeldC N i w tb cb s e W) : HeldC N i w tb cb s e (W.setCells N o l) := by
  induction l generalizing o W with
  | nil => exact h
  | cons v l ih => exact ih (h.set hN)

theorem below_alloc {o : Obj} (h : Below w.heap.size w W) : Below w.heap.size w (W.alloc o) := h.alloc h.size _
theorem below_lays (hl : Lays W w') (h : Below w.heap.size w W) : Below w.heap.size w w' := h.trans (hl.below.mono h.size)
theorem below_upd {r : Nat} (hg : W.grownBy w' (some r)) (hr : w.heap.size ≤ r) (h : Below w.heap.size w W) : Below w.heap.size w w' := h.grown hg h.size (fun k e => by injection e with e; omega)
theorem made_at {r : Nat} (h : W.heap.size = r) : MapL (W.alloc (.map #[] 0)) r [] := by subst h; exact MapL.made W
theorem MapL.lays {r : Nat} {l : Ents} (hl : Lays W w') (h : MapL W r l) : MapL w' r l := h.block (hl.below.block r h.lt)
theorem MapL.drew {r : Nat} {l : Ents} (h : MapL W r l) : MapL W.drew r l := h
theorem MapL.alloc {r : Nat} {l : Ents} {o : Obj} (h : MapL W r l) : MapL (W.alloc o) r l := h.block (Below.heap_alloc _ _ _ h.lt)

theorem cell_at {r : Nat} {v : Value} {t : TypeId} (h : W.heap.size = r) : (W.alloc (.cells #[v] t)).cell? ⟨r, 0, none⟩ = some v := by
  subst h
  have : (W.alloc (.cells #[v] t)).heap[W.heap.size]? = some (.cells #[v] t (0, 0)) := by rw [alloc_at, if_pos rfl]
  exact Joins.cell_of_block this 0
theorem cell_lays {r : Nat} {v : Value} (hl : Lays W w') (h : W.cell? ⟨r, 0, none⟩ = some v) : w'.cell? ⟨r, 0, none⟩ = some v := (cell_eq' (hl.below.block r (cell_lt' h))).trans h
theorem cell_drew {r : Nat} {v : Value} (h : W.cell? ⟨r, 0, none⟩ = some v) : W.drew.cell? ⟨r, 0, none⟩ = some v := h
theorem cell_alloc {r : Nat} {v : Value} {o : Obj} (h : W.cell? ⟨r, 0, none⟩ = some v) : (W.alloc o).cell? ⟨r, 0, none⟩ = some v := (cell_eq' (Below.heap_alloc _ _ _ (cell_lt' h))).trans h
theorem cell_upd {r q : Nat} {v : Value} (hg : W.grownBy w' (some q)) (hn : ∀ c t f, W.heap[q]? ≠ some (.cells c t f)) (h : W.cell? ⟨r, 0, none⟩ = some v) : w'.cell? ⟨r, 0, none⟩ = some v := by
  refine (cell_eq' (hg.block r (cell_lt' h) (fun e => ?_))).trans h
  injection e with e
  subst e
  unfold World.cell? at h
  split at h
  · rename_i c t f hh; exact hn _ _ _ hh
  · cases h
end

set_option maxRecDepth 100000 in
/-- 'm["a"] = v', into a map that is empty: a step of a region. -/
theorem upd_arm {o : Oper} {a : Act} {K : Act → World → Prop} {Q : Exit → Act → World → Prop} {W : World} {r : Nat} {v : Value} {g : Unit → World → Result Next} (h : MapL W r [])
    (hk : ∀ w', MapL w' r [(aS, v)] → W.grownBy w' (some r) → (∀ c t f, W.heap[r]? ≠ some (.cells c t f)) → w'.heap.size = W.heap.size → Oper.upon Ybaz.prog o a K Q ((Result.ok () w').andThen g)) :
    Oper.upon Ybaz.prog o a K Q ((Sem.run Ybaz.prog (Instr.mapUpdate 39 (.map (some r)) (.string ⟨#[97]⟩) v) W).andThen g) := by
  obtain ⟨w', hrun, hM, hg, hs⟩ := h.store_new (t := 39) (e := 37) Ybaz.underlying39 (s := aS) aS_size (fun v hv => by cases hv) v
  have hrun' : Sem.run Ybaz.prog (Instr.mapUpdate 39 (.map (some r)) (.string ⟨#[97]⟩) v) W = .ok () w' := hrun
  rw [hrun']
  refine hk w' hM hg ?_ hs
  obtain ⟨es, ck, hb, _⟩ := h
  intro c t f hc
  rw [hb] at hc; cases hc

/-- The cells of a contract as the law lays it. -/
def conA (r : Nat) (a b : Int) : Array Value := #[.string ⟨#[99]⟩, .int .i64 1, .map (some r), .int .u64 0, .int .i64 a, .pointer none, .int .u64 0, .int .i64 b, .pointer none]
theorem fold42 (r : Nat) (a b : Int) : Value.agg #[.string ⟨#[99]⟩, .int .i64 1, .map (some r), .int .u64 0, .int .i64 a, .pointer none, .int .u64 0, .int .i64 b, .pointer none] = .agg (conA r a b) := rfl
theorem size_conA (r : Nat) (a b : Int) : (conA r a b).size = 9 := rfl
theorem conA_one (r : Nat) (a b : Int) : ∀ v ∈ (conA r a b).toList, v.oneCell' = true := by
  intro v hv
  simp only [conA, List.mem_cons, List.not_mem_nil, or_false] at hv
  rcases hv with rfl | rfl | rfl | rfl | rfl | rfl | rfl | rfl | rfl <;> rfl
theorem store_con {N i : Nat} (r : Nat) (a b : Int) (W : World) (h : GoodN N i W) : (storeCells ⟨N, i * 9, none⟩ (conA r a b).toList).run Ybaz.prog W = .ok () (W.setCells N (i * 9) (conA r a b).toList) := by
  obtain ⟨cs, h1, h2⟩ := h
  have hl : (conA r a b).toList.length = 9 := rfl
  have := run_storeCells_cells (P := Ybaz.prog) N (i * 9) (conA r a b).toList 0 W (fun j hj => by
    rw [Joins.cell_of_block h1, Array.getElem?_eq_getElem (by omega)]
    rfl) (fun j hj => Joins.unfrozen_of_block h1 _) (conA_one r a b)
  simpa using this
attribute [local go_sem] fold42 size_conA

set_option linter.unusedSimpArgs false in
set_option maxRecDepth 100000 in
set_option maxHeartbeats 4000000 in
theorem law_r11 (tb cb N len i v : Nat) (s e : Int) (w : World) (hS : HeldC N i w tb cb s e w) (hN : tb ≠ N ∧ cb ≠ N) (hv : v < 3) (hi : i < len) (hs : -32768 ≤ s ∧ s ≤ 32767) (he : -32768 ≤ e ∧ e ≤ 32767) 
    (df : List Deferred) (Q : Exit → Act → World → Prop) (c0 c1 c2 c3 c4 c5 c6 c7 c8 c9 c10 c12 c17 c18 c19 c20 c21 c22 c23 c24 c25 c26 c27 c28 c29 c30 c31 c32 c33 c34 c35 c36 c37 c38 c39 c40 c41 c42 c43 c44 c45 c46 c47 c48 c49 c50 c51 c52 c53 c54 c55 c56 c57 c58 c59 c60 c61 c62 c63 c64 c65 c66 c67 c68 c69 c70 c71 c72 c73 c74 c75 c76 c77 c78 c79 c80 c81 c82 c83 c84 c85 c86 c87 c88 : Value) (rest : List Value) (hQ : ∀ (r sb : Nat) (W : World) (e70 e71 e73 e74 e76 e77 e78 e79 e80 e81 e82 e83 e84 e85 e86 e87 e88 : Value), Below w.heap.size w W → MapL W r [(aS, .slice (some ⟨sb, 0, none⟩) 1 1)] → W.cell? ⟨sb, 0, none⟩ = some (.string (valS v)) → Q .normal ⟨(c0 :: c1 :: c2 :: c3 :: c4 :: c5 :: c6 :: c7 :: c8 :: c9 :: c10 :: .pointer (some ⟨tb, 0, none⟩) :: c12 :: .slice (some ⟨N, 0, none⟩) len len :: .int .i64 (i : Nat) :: .pointer (some ⟨cb, 0, none⟩) :: .int .i64 (v : Nat) :: c17 :: c18 :: c19 :: c20 :: c21 :: c22 :: c23 :: c24 :: c25 :: c26 :: c27 :: c28 :: c29 :: c30 :: c31 :: c32 :: c33 :: c34 :: c35 :: c36 :: c37 :: c38 :: c39 :: c40 :: c41 :: c42 :: c43 :: c44 :: c45 :: c46 :: c47 :: c48 :: c49 :: c50 :: c51 :: c52 :: c53 :: c54 :: c55 :: c56 :: c57 :: c58 :: c59 :: c60 :: c61 :: c62 :: c63 :: c64 :: c65 :: c66 :: c67 :: c68 :: c69 :: e70 :: e71 :: .map (some r) :: e73 :: e74 :: .slice (some ⟨sb, 0, none⟩) 1 1 :: e76 :: e77 :: e78 :: e79 :: e80 :: e81 :: e82 :: e83 :: e84 :: e85 :: e86 :: e87 :: e88 :: rest).toArray, df⟩ (W.setCells N (i * 9) (conA r (100000 + s) (100000 + e)).toList)) :
    lawR11.wp Ybaz.prog Q ⟨(c0 :: c1 :: c2 :: c3 :: c4 :: c5 :: c6 :: c7 :: c8 :: c9 :: c10 :: .pointer (some ⟨tb, 0, none⟩) :: c12 :: .slice (some ⟨N, 0, none⟩) len len :: .int .i64 (i : Nat) :: .pointer (some ⟨cb, 0, none⟩) :: .int .i64 (v : Nat) :: c17 :: c18 :: c19 :: c20 :: c21 :: c22 :: c23 :: c24 :: c25 :: c26 :: c27 :: c28 :: c29 :: c30 :: c31 :: c32 :: c33 :: c34 :: c35 :: c36 :: c37 :: c38 :: c39 :: c40 :: c41 :: c42 :: c43 :: c44 :: c45 :: c46 :: c47 :: c48 :: c49 :: c50 :: c51 :: c52 :: c53 :: c54 :: c55 :: c56 :: c57 :: c58 :: c59 :: c60 :: c61 :: c62 :: c63 :: c64 :: c65 :: c66 :: c67 :: c68 :: c69 :: c70 :: c71 :: c72 :: c73 :: c74 :: c75 :: c76 :: c77 :: c78 :: c79 :: c80 :: c81 :: c82 :: c83 :: c84 :: c85 :: c86 :: c87 :: c88 :: rest).toArray, df⟩ w := by
  have hAQ : Aside (∀ (r sb : Nat) (W : World) (e70 e71 e73 e74 e76 e77 e78 e79 e80 e81 e82 e83 e84 e85 e86 e87 e88 : Value), Below w.heap.size w W → MapL W r [(aS, .slice (some ⟨sb, 0, none⟩) 1 1)] → W.cell? ⟨sb, 0, none⟩ = some (.string (valS v)) → Q .normal ⟨(c0 :: c1 :: c2 :: c3 :: c4 :: c5 :: c6 :: c7 :: c8 :: c9 :: c10 :: .pointer (some ⟨tb, 0, none⟩) :: c12 :: .slice (some ⟨N, 0, none⟩) len len :: .int .i64 (i : Nat) :: .pointer (some ⟨cb, 0, none⟩) :: .int .i64 (v : Nat) :: c17 :: c18 :: c19 :: c20 :: c21 :: c22 :: c23 :: c24 :: c25 :: c26 :: c27 :: c28 :: c29 :: c30 :: c31 :: c32 :: c33 :: c34 :: c35 :: c36 :: c37 :: c38 :: c39 :: c40 :: c41 :: c42 :: c43 :: c44 :: c45 :: c46 :: c47 :: c48 :: c49 :: c50 :: c51 :: c52 :: c53 :: c54 :: c55 :: c56 :: c57 :: c58 :: c59 :: c60 :: c61 :: c62 :: c63 :: c64 :: c65 :: c66 :: c67 :: c68 :: c69 :: e70 :: e71 :: .map (some r) :: e73 :: e74 :: .slice (some ⟨sb, 0, none⟩) 1 1 :: e76 :: e77 :: e78 :: e79 :: e80 :: e81 :: e82 :: e83 :: e84 :: e85 :: e86 :: e87 :: e88 :: rest).toArray, df⟩ (W.setCells N (i * 9) (conA r (100000 + s) (100000 + e)).toList)) := hQ
  clear hQ
  have hmm := @run_makeMap Ybaz.prog
  have hst := fun (r : Nat) (a b : Int) (W : World) (h : GoodN N i W) => store_con r a b W h
  have h5 := fun W => val5 v hv W
  have h6s := fun W => cat6 100000 s (by omega) (by omega) (by omega) (by omega) W
  have h6e := fun W => cat6 100000 e (by omega) (by omega) (by omega) (by omega) W
  have hi' : (i : Int) < (len : Int) := by omega
  have hws : IntKind.i64.wrap s = s := (IntWalk.i64_left _).trans (by unfold wrap64; omega)
  have hwe : IntKind.i64.wrap e = e := (IntWalk.i64_left _).trans (by unfold wrap64; omega)
  have HS : Aside (HeldC N i w tb cb s e w) := hS
  clear hS hs he
  conv => arg 2; whnf
  refine wp_normal ?_
  go_region_held3 (fun w' => (KeptN N w w' ∧ w'.cell? ⟨tb, 0, none⟩ = some (.int .u64 0) ∧ w'.cell? ⟨tb, 1, none⟩ = some (.int .i64 100000) ∧ w'.cell? ⟨tb, 2, none⟩ = some (.pointer none) ∧ w'.cell? ⟨cb, 1, none⟩ = some (.int .i16 s) ∧ w'.cell? ⟨cb, 2, none⟩ = some (.int .i16 e)) ∧ GoodN N i w') (repeat (first | with_reducible exact HS.out | with_reducible assumption | with_reducible refine HeldC.drew ?_ | with_reducible refine HeldC.sets hN ?_ | with_reducible refine HeldC.alloc hN ?_ | with_reducible refine HeldC.lays hN (by assumption) ?_ | with_reducible refine HeldC.upd hN (by assumption) (by assumption) (by omega) ?_))
    (first
      | (go_at_call 5; with_reducible refine (h5 _).mono ?_; rintro _ w1 ⟨rfl, rfl⟩)
      | (go_at_call 6; with_reducible refine (h6s _).mono ?_; rintro _ w1 ⟨rfl, hl1⟩; have hz1 := hl1.below.size; try simp at hz1)
      | (go_at_call 6; with_reducible refine (h6e _).mono ?_; rintro _ w1 ⟨rfl, hl1⟩; have hz1 := hl1.below.size; try simp at hz1)
      | (with_reducible refine upd_arm (by (repeat (first | with_reducible exact made_at (by simp) | with_reducible refine MapL.drew ?_ | with_reducible refine MapL.alloc ?_ | with_reducible refine MapL.lays (by assumption) ?_))) ?_; intro w2 hM2 hg2 hn2 hs2))
  all_goals
    refine hAQ.out _ _ _ _ _ _ _ _ _ _ _ _ _ _ _ _ _ _ _ _ ?_ ?_ ?_
    · repeat (first | with_reducible exact Below.refl _ _ | with_reducible refine Below.drew ?_ | with_reducible refine below_alloc ?_ | with_reducible refine below_lays (by assumption) ?_ | with_reducible refine below_upd (by assumption) (by omega) ?_)
    · repeat (first | with_reducible exact hM2 | with_reducible refine MapL.drew ?_ | with_reducible refine MapL.alloc ?_ | with_reducible refine MapL.lays (by assumption) ?_)
    · repeat (first | with_reducible exact cell_at (by simp) | with_reducible refine cell_drew ?_ | with_reducible refine cell_alloc ?_ | with_reducible refine cell_lays (by assumption) ?_ | with_reducible refine cell_upd (by assumption) (by assumption) ?_)
end Go.Proofs.YbulkcelaGreatDoor
