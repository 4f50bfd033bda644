/-
  LawS4037CInstall: '(*peer).install', its last statement (seat b4037aD).
-/
import Derived.Test.YbulkceouDoorEvent
import Derived.Great.BuildSlice
namespace Go.Proofs.YbulkceouDoor
open Go.RowKit Go.Shelf
attribute [local go_sem] Oper.semAt_some size_evCells

theorem minus_nat (a c : Nat) : ∃ y : Nat, bits .andNot .u64 (a : Int) (c : Int) = (y : Int) ∧ y < 2 ^ 64 ∧ ∀ i, i < 64 → y.testBit i = (a.testBit i && !c.testBit i) := by
  refine ⟨(BitVec.ofInt 64 (a : Int) &&& ~~~BitVec.ofInt 64 (c : Int)).toNat, ?_, (BitVec.ofInt 64 (a : Int) &&& ~~~BitVec.ofInt 64 (c : Int)).isLt, fun i hi => ?_⟩
  · show IntKind.u64.wrap ((BitVec.ofInt 64 (a : Int) &&& ~~~BitVec.ofInt 64 (c : Int)).toNat : Int) = _
    rw [IntKind.wrap_u64]
    have := (BitVec.ofInt 64 (a : Int) &&& ~~~BitVec.ofInt 64 (c : Int)).isLt
    omega
  · rw [BitVec.testBit_toNat, BitVec.getLsbD_and, BitVec.getLsbD_not, BitVec.ofInt_natCast, BitVec.ofInt_natCast, BitVec.getLsbD_ofNat, BitVec.getLsbD_ofNat]
    simp [hi]

/-- A part of a set without the set is nothing. -/
theorem minus_part (j p : Nat) (h : ∀ i, i < 64 → j.testBit i = true → p.testBit i = true) : bits .andNot .u64 (j : Int) (p : Int) = 0 := by
  obtain ⟨y, hy, hy64, hb⟩ := minus_nat j p
  rw [hy]
  have : y = 0 := Nat.eq_of_testBit_eq fun i => by
    rw [Nat.zero_testBit]
    by_cases hi : i < 64
    · rw [hb i hi]
      cases e : j.testBit i with
      | false => rfl
      | true => rw [h i hi e]; rfl
    · exact Nat.testBit_lt_two_pow (Nat.lt_of_lt_of_le hy64 (Nat.pow_le_pow_right (by omega) (by omega)))
  rw [this]; rfl

/-- The number of the first region of a piece of code. -/
def headR : Code → Option Nat
  | .region n _ _ => some n
  | .seq a _ => headR a
  | .block _ c => headR c
  | .scope c => headR c
  | _ => none
/-- The rest of a chain of statements, from the statement whose first region is the n-th. -/
def fromR (n : Nat) : Code → Option Code
  | .seq a b => match headR a == some n with
    | true => some (.seq a b)
    | false => fromR n b
  | .block _ c => fromR n c
  | .scope c => fromR n c
  | _ => none

/-- Only the block 'rb' is written below B. -/
structure But (rb B : Nat) (w w' : World) : Prop where
  size : w.heap.size ≤ w'.heap.size
  same : ∀ j, j ≠ rb → j < B → w'.heap[j]? = w.heap[j]?
  low : Below rb w w'
theorem But.refl (rb B : Nat) (w : World) : But rb B w w := ⟨Nat.le_refl _, fun _ _ _ => rfl, Below.refl _ _⟩
theorem But.setCell {rb B : Nat} {w w' : World} (h : But rb B w w') (o : Nat) (v : Value) : But rb B w (w'.setCell ⟨rb, o, none⟩ v) :=
  ⟨by simpa [World.setCell] using h.size, fun j h1 h2 => (Below.heap_setCell _ _ _ _ h1).trans (h.same j h1 h2), h.low.setCell (p := ⟨rb, o, none⟩) (Nat.le_refl _) _⟩
theorem But.drew {rb B : Nat} {w w' : World} (h : But rb B w w') : But rb B w w'.drew := ⟨h.size, h.same, h.low.drew⟩
theorem But.cell {rb B : Nat} {w w' : World} (h : But rb B w w') (j o : Nat) (h1 : j ≠ rb) (h2 : j < B) : w'.cell? ⟨j, o, none⟩ = w.cell? ⟨j, o, none⟩ := World.cell?_of_block (h.same j h1 h2)

/-- What install answers, seen from the world w. -/
structure Installed (b0 E pb chb rb n s cm L : Nat) (tn tm : Int) (nm : Nat → ByteArray) (xs zs : List Value) (w : World) (v : Value) (w' : World) : Prop where
  low : Below b0 w w'
  same : ∀ j, j ≠ pb → j ≠ rb → j < E → w'.heap[j]? = w.heap[j]?
  p19 : w'.cell? ⟨pb, 19, none⟩ = some (.int .u64 tn)
  p20 : w'.cell? ⟨pb, 20, none⟩ = some (.int .i64 tm)
  p21 : w'.cell? ⟨pb, 21, none⟩ = some (.int .u64 cm)
  p22 : w'.cell? ⟨pb, 22, none⟩ = some (.int .u64 0)
  p23 : w'.cell? ⟨pb, 23, none⟩ = some (.pointer (some ⟨chb, 0, none⟩))
  p24 : w'.cell? ⟨pb, 24, none⟩ = some (.pointer none)
  list : Listed rb E zs w'
  evs : ∃ ms, w'.ownsRow E 62 15 v (L + 1) (xs ++ (evCells (nm s) tn tm ms).toList) ∧ w'.ownsRow E 9 1 ms (mem cm).length ((mem cm).map fun k => .string (nm k))


theorem info62 : (Ybad.prog.info? 62).map (fun i => (i.zero, i.size, i.bytes)) = some (some (.agg evZero), 15, 184) := by kernel_rfl
theorem fill_ev (name : ByteArray) (num mb : Int) (ms : Value) : Instr.fill (fun i => some (i * 15, 15)) ((Array.range (1 * 15)).map ((Value.agg evZero).cells[· % (Value.agg evZero).cells.size]!)) [(0, .agg (evCells name num mb ms))] = some (evCells name num mb ms) := by kernel_rfl

/-- A goal that a walk leaves as it stands. -/
def Veil (p : Prop) : Prop := p
theorem Veil.off {p : Prop} (h : Veil p) : p := h

noncomputable def iC : Code := (Ybad.f4.body.bind (fromR 9)).getD .skip

set_option linter.unusedSimpArgs false in
set_option maxRecDepth 100000 in
set_option maxHeartbeats 2000000 in
theorem install_C (b0 E B pb chb rb nb n s cm x1 x2 D D2 L : Nat) (tn tm : Int) (nm : Nat → ByteArray) (xs zs : List Value) (evs : Value) (cs : Array Value) (w0 w : World) (hw0 : Below b0 w0 w) (hsame : ∀ j, j ≠ pb → j ≠ rb → j < E → w.heap[j]? = w0.heap[j]?)
    (h0 : 0 < b0) (hbp : b0 ≤ pb) (hpE : pb < E) (hrE : rb < E) (hnE : nb < E) (hEB : E ≤ B) (hBw : B ≤ w.heap.size)
    (hT : TabAt 0 Lib.deBruijn64tab w)
    (hpb : w.heap[pb]? = some (.cells cs 53 (0, 0))) (k1 : cs[1]? = some (.slice (some ⟨nb, 0, none⟩) n n)) (k2 : cs[2]? = some (.int .i64 s))
    (k19 : cs[19]? = some (.int .u64 tn)) (k20 : cs[20]? = some (.int .i64 tm)) (k21 : cs[21]? = some (.int .u64 cm)) (k22 : cs[22]? = some (.int .u64 0)) (k23 : cs[23]? = some (.pointer (some ⟨chb, 0, none⟩))) (k24 : cs[24]? = some (.pointer none))
    (d1 : w.cell? ⟨x1, 0, none⟩ = some (.pointer (some ⟨pb, 0, none⟩)))
    (hnm : ∀ k, k < n → w.cell? ⟨nb, k, none⟩ = some (.string (nm k)))
    (hn : n ≤ 64) (hs : s < n) (hcm : cm < 2 ^ n)
    (hl : Listed rb B zs w) (hev : w.ownsRow E 62 15 evs L xs) (hevB : ∀ k, evs.ownBlock = some k → k < B) (hL : L ≤ 1024)
    (hD : w.heap[D]? = some (.deferred (some []))) (hDB : B ≤ D) (hD2 : w.heap[D2]? = some (.deferred (some []))) (hDB2 : B ≤ D2) (hDD : D ≠ D2)
    (c4 c7 c8 c9 c10 c11 c12 c13 c14 c15 c16 c17 c18 c19 c20 c21 c22 c23 c24 c25 c26 c27 c28 c29 c30 c31 c32 c33 c34 c35 c36 c37 c38 c39 c40 c41 c42 c43 c44 c45 c46 c47 c48 c49 c50 c51 c52 c53 c54 c55 c56 c57 c58 c59 c60 c61 c62 c63 c64 c65 c66 c67 c68 c69 c70 c71 c72 : Value) :
    iC.wp Ybad.prog (bodyPostM Fence.wide 6 Ybad.prog Ybad.f4 fun e w' => ∃ v, e = .returned v ∧ Installed b0 E pb chb rb n s cm L tn tm nm xs zs w0 v w')
      { tmps := #[(.pointer (some ⟨pb, 0, none⟩)), evs, (.pointer (some ⟨chb, 0, none⟩)), (.pointer (some ⟨x1, 0, none⟩)), c4, (.pointer (some ⟨x2, 0, none⟩)), (.slice none 0 0), c7, c8, c9, c10, c11, c12, c13, c14, c15, c16, c17, c18, c19, c20, c21, c22, c23, c24, c25, c26, c27, c28, c29, c30, c31, c32, c33, c34, c35, c36, c37, c38, c39, c40, c41, c42, c43, c44, c45, c46, c47, c48, c49, c50, c51, c52, c53, c54, c55, c56, c57, c58, c59, c60, c61, c62, c63, c64, c65, c66, c67, c68, c69, c70, c71, c72], defers := [{ target := .collected D2, args := #[] }, { target := .collected D, args := #[] }] } w := by
  conv => arg 2; whnf
  obtain ⟨i0, hi, hz0, hz1, hz2⟩ := info_parts info62
  have hve := viewEvent b0 pb nb n s cm tn tm nm w h0 (by omega) hT (by omega) (by omega) hn hs hcm ((Joins.cell_of_block hpb 1).trans k1) ((Joins.cell_of_block hpb 2).trans k2) ((Joins.cell_of_block hpb 19).trans k19) ((Joins.cell_of_block hpb 20).trans k20) ((Joins.cell_of_block hpb 21).trans k21) ((Joins.cell_of_block hpb 22).trans k22) hnm
  have A : Aside (w.heap[pb]? = some (.cells cs 53 (0, 0)) ∧ Listed rb B zs w ∧ w.ownsRow E 62 15 evs L xs) := ⟨hpb, hl, hev⟩
  clear hpb hl hev hnm hT
  go_wp2_with (go_at_call 8; refine hve.mono ?_; rintro e w9 ⟨ms, rfl, hms, hb9⟩; clear hve; refine Veil.off ?_)
  unfold Veil
  go_step
  refine wpList_buildSlice rfl 54 62 1 _ rfl (evCells (nm s) tn tm ms) i0 (.agg evZero) Ybad.underlying54 hi hz0 (by rw [hz1]; decide) (by rw [hz1]; decide) (by rw [hz1]; simp only [List.map_toArray, List.map_cons, List.map_nil]; exact fill_ev (nm s) tn tm ms) ?_
  simp only [Act.put, List.setIfInBounds_toArray, List.set_cons_zero, List.set_cons_succ]
  obtain ⟨a1, a2, a3⟩ := A.out
  have hs9 := hb9.size
  have hevs9 : w9.ownsRow E 62 15 evs L xs := by
    obtain ⟨e0, ⟨e1, e2⟩ | ⟨g, cap, cur, e1, e2, e3, e4⟩⟩ := a3
    · exact ⟨e0, .inl ⟨e1, e2⟩⟩
    · exact ⟨e0, .inr ⟨g, cap, cur, e1, e2, (hb9.block g (Array.getElem?_eq_some_iff.1 e3).1).trans e3, e4⟩⟩
  refine wpList_append_own _ rfl (.tmp 68) (.tmp 71) 54 rfl E 62 i0 (.agg evZero) 15 184 Ybad.underlying54 hi hz0 hz1 hz2 rfl (by decide) evs L xs rfl (hevs9.alloc _) ⟨w9.heap.size, 0, none⟩ 1 1 (evCells (nm s) tn tm ms).toList rfl rfl ?a1 ?a2 ?a3 ?a4 ?a5 ?_
  case a1 =>
    intro j u hj
    rw [show (⟨w9.heap.size, 0, none⟩ : Addr).add j = ⟨w9.heap.size, j, none⟩ by unfold Addr.add; split <;> simp_all]
    rw [Joins.cell_of_block (show (w9.alloc (.cells (evCells (nm s) tn tm ms) 62)).heap[w9.heap.size]? = some (.cells (evCells (nm s) tn tm ms) 62 (0, 0)) by rw [alloc_at, if_pos rfl])]
    simpa using hj
  case a2 => exact ev_one_of _ _ _ _ (by rcases hms.2 with ⟨e, _⟩ | ⟨g, cp, cur, e, _⟩ <;> rw [e] <;> rfl)
  case a3 => simp [maxLen]; omega
  case a4 => omega
  case a5 => simp; omega
  intro v' w10 hown10 hgrow _
  simp only [Act.put, List.setIfInBounds_toArray, List.set_cons_zero, List.set_cons_succ]
  go_wp2
  have hob : ∀ j, Value.ownBlock evs = some j → E ≤ j := fun j hj => (a3.lt j hj).1
  have k10 : ∀ j, j < w.heap.size → evs.ownBlock ≠ some j → w10.heap[j]? = w.heap[j]? := fun j hj hne =>
    (hgrow.block j (by simp; omega) (fun e => hne e.symm)).trans ((Below.heap_alloc _ _ _ (by omega)).trans (hb9.block j hj))
  have hD10 : w10.heap[D]? = some (.deferred (some [])) := (k10 D (Array.getElem?_eq_some_iff.1 hD).1 (fun e => by have := hevB D e; omega)).trans hD
  have hD210 : w10.heap[D2]? = some (.deferred (some [])) := (k10 D2 (Array.getElem?_eq_some_iff.1 hD2).1 (fun e => by have := hevB D2 e; omega)).trans hD2
  have hD11 : (w10.putObj D2 (.deferred none)).heap[D]? = some (.deferred (some [])) := (World.putObj_heap_other (fun e => hDD e)).trans hD10
  refine ⟨by simp, .inl ⟨_, _, rfl, run_takeDeferred hD210, ?_⟩⟩
  refine ⟨by simp, .inl ⟨_, _, rfl, run_takeDeferred hD11, ?_⟩⟩
  refine ⟨_, results_tmp Ybad.results4 _ _ _, v', rfl, ?_⟩
  have kp : ∀ j, j ≠ D → j ≠ D2 → ((w10.putObj D2 (.deferred none)).putObj D (.deferred none)).heap[j]? = w10.heap[j]? := fun j h1 h2 =>
    (World.putObj_heap_other (fun e => h1 e)).trans (World.putObj_heap_other (fun e => h2 e))
  have kc : ∀ (j : Nat) (c : Array Value) (t : TypeId) (f : Nat × Nat), w10.heap[j]? = some (.cells c t f) → ((w10.putObj D2 (.deferred none)).putObj D (.deferred none)).heap[j]? = some (.cells c t f) := fun j c t f h =>
    (kp j (fun e => by rw [e, hD10] at h; cases h) (fun e => by rw [e, hD210] at h; cases h)).trans h
  have kE : ∀ j, j < E → ((w10.putObj D2 (.deferred none)).putObj D (.deferred none)).heap[j]? = w.heap[j]? := fun j hj =>
    (kp j (by omega) (by omega)).trans (k10 j (by omega) (fun e => by have := hob j e; omega))
  have hpp := (kE pb hpE).trans a1
  have hlow : Below b0 w w10 := ((hb9.mono (by omega)).alloc (by omega) _).grown hgrow (by simp; omega) (fun j e => by have := hob j e; omega)
  refine ⟨?_, fun j h1 h2 hj => (kE j hj).trans (hsame j h1 h2 hj), (Joins.cell_of_block hpp 19).trans k19, (Joins.cell_of_block hpp 20).trans k20, (Joins.cell_of_block hpp 21).trans k21, (Joins.cell_of_block hpp 22).trans k22, (Joins.cell_of_block hpp 23).trans k23, (Joins.cell_of_block hpp 24).trans k24, ?_, ms, ?_, ?_⟩
  · exact ((hw0.trans hlow).trans ((Below.refl b0 w10).grown (grownBy_putObj' w10 D2 _) (by have := (Array.getElem?_eq_some_iff.1 hD210).1; omega) (fun k e => by cases e; omega))).trans ((Below.refl b0 _).grown (grownBy_putObj' _ D _) (by have := (Array.getElem?_eq_some_iff.1 hD11).1; omega) (fun k e => by cases e; omega))
  · obtain ⟨v, e1, e2, ⟨e3, e4⟩ | ⟨g, cap, cur, e3, e4, e5, e6⟩⟩ := a2
    · exact ⟨v, (kE rb hrE).trans e1, e2, .inl ⟨e3, e4⟩⟩
    · exact ⟨v, (kE rb hrE).trans e1, e2, .inr ⟨g, cap, cur, e3, by omega, kc g _ _ _ ((k10 g (Array.getElem?_eq_some_iff.1 e5).1 (fun e => by have := hevB g e; omega)).trans e5), e6⟩⟩
  · obtain ⟨e2, ⟨e3, e4⟩ | ⟨g, cap, cur, e3, e4, e5, e6⟩⟩ := hown10
    · exact ⟨e2, .inl ⟨e3, e4⟩⟩
    · exact ⟨e2, .inr ⟨g, cap, cur, e3, e4, kc g _ _ _ e5, e6⟩⟩
  · obtain ⟨e2, ⟨e3, e4⟩ | ⟨g, cap, cur, e3, e4, e5, e6⟩⟩ := hms
    · exact ⟨e2, .inl ⟨e3, e4⟩⟩
    · exact ⟨e2, .inr ⟨g, cap, cur, e3, by omega, kc g _ _ _ ((hgrow.block g (by have := (Array.getElem?_eq_some_iff.1 e5).1; simp; omega) (fun e => by have := hevB g e.symm; omega)).trans ((Below.heap_alloc _ _ _ (Array.getElem?_eq_some_iff.1 e5).1).trans e5)), e6⟩⟩
end Go.Proofs.YbulkceouDoor
