/-
  bound, its last loops: WHOLE (seat b4030aZD).
-/
import Derived.Test.YbulkcelaGreatDoorBndW
namespace Go.Proofs.YbulkcelaGreatDoor
open Go.RowKit Go.MapKept Go.Lib Go.Shelf Go.Maps Go.Sort

/-- What bound leaves. -/
structure BEnd (w : World) (b0 kb kc len : Nat) (V : Nat → Nat) (S E : Nat → Int) (ks : List Int) (vs bv : Nat → Value) (nv fv keyv : Value) (w' : World) : Prop where
  os : w'.os = w.os
  tape : w'.tape = w.tape
  output : w'.output = w.output
  size : w.heap.size ≤ w'.heap.size
  block : ∀ k, k < w.heap.size → k ≠ kb → k ≠ b0 + 2 → w'.heap[k]? = w.heap[k]?
  kbl : kb < w.heap.size
  kinds : ∃ cur : Array Value, w'.heap[kb]? = some (.cells cur 105 (0, 0)) ∧ cur.size = kc * 2 ∧ ∀ i, i < ks.length → cur[i * 2]? = some (vs i) ∧ cur[i * 2 + 1]? = some (bv i)
  box : w'.heap[b0 + 2]? = some (.cells #[.map (some b0), nv, fv, .map (some (b0 + 1)), .slice (some ⟨kb, 0, none⟩) ks.length kc, .int .i64 ks.length, keyv] 90 (0, 0))
  bnd : ∀ (i : Nat) (k : Int), ks[i]? = some k → w'.ownsRow w.heap.size 29 3 (bv i) (bdK V S E len k).length ((bdK V S E len k).flatMap encT)

theorem cell_block_eq {w w' : World} {b o : Nat} (h : w'.heap[b]? = w.heap[b]?) : w'.cell? ⟨b, o, none⟩ = w.cell? ⟨b, o, none⟩ := by
  simp [World.cell?, h]

theorem run_cut0 {W : World} {base n : Nat} {v : Value} {xs : List Value} (h : W.ownsRow base 29 3 v n xs) (w : World) : (Instr.slice 76 v none (some (.int .i64 0)) none).run Ybaz.prog w = .ok (cut0 v) w := by
  rcases h.2 with ⟨rfl, rfl⟩ | ⟨g, cap, cur, rfl, _⟩
  · simp [go_sem, cut0, Ybaz.underlying76]
  · simp [go_sem, cut0, Ybaz.underlying76]

theorem BSt.tst {w wr : World} {b0 len N kb kc : Nat} {V : Nat → Nat} {S E : Nat → Int} {ki : Ents} {ks : List Int} {vs fl : Nat → Value} {nv fv keyv fw : Value} (hKs : Ks w b0 len N V ki ks vs nv fv (.slice (some ⟨kb, 0, none⟩) ks.length kc) keyv) (h : BSt w ks vs V len fw fl wr) :
    TSt w kb kc len V S E ks vs 0 (.slice none 0 0) fl (fun _ => .slice none 0 0) wr := by
  obtain ⟨hk0, ⟨e, _⟩ | ⟨g, cp, cur, e, h2, h3, h4, h5, h6, h7⟩⟩ := hKs.kinds
  · cases e
  cases e
  have hkl : kb < w.heap.size := (Array.getElem?_eq_some_iff.1 h3).1
  have hix := (Array.getElem?_eq_some_iff.1 h.idx).1
  refine ⟨h.below.os, h.below.tape, h.below.output, by omega, fun k k1 _ => h.below.block k k1, hkl, ⟨cur, (h.below.block kb hkl).trans h3, h6, fun i hi => ?_⟩, ?_, fun i k hi => ?_, ⟨0, [], by simp, .inl ⟨rfl, rfl⟩⟩, fun i k hi => absurd hi (Nat.not_lt_zero _), fun i g hi => absurd hi (Nat.not_lt_zero _)⟩
  · have g0 := flat2_get (fun j => [vs j, .slice none 0 0]) (fun _ => rfl) 0 (by omega) ks.length i hi
    have g1 := flat2_get (fun j => [vs j, .slice none 0 0]) (fun _ => rfl) 1 (by omega) ks.length i hi
    rw [← h7, List.getElem?_take, if_pos (by omega)] at g0 g1
    exact ⟨by simpa using g0, by simpa using g1⟩
  · rw [h.flb]
    simp
  · rcases h.st with ⟨e1, e2, e3, e4⟩ | ⟨cb, lo, hi', g⟩
    · rw [e4 i (List.getElem?_eq_some_iff.1 hi).1, e1]
      exact ⟨by simp [flK, ints], .inl ⟨rfl, by simp [flK]⟩⟩
    · have := g.lo4
      have := g.lohi
      exact row_base (g.rows i k hi) (by omega)

theorem own_cell_int {w : World} {base L : Nat} {p : Option Addr} {c : Nat} {is : List Nat} (h : w.ownsRow base 3 1 (.slice p L c) is.length (ints is)) {q i : Nat} (hq : is[q]? = some i) : ∃ g, p = some ⟨g, 0, none⟩ ∧ w.cell? ⟨g, q, none⟩ = some (.int .i64 (i : Nat)) := by
  have hql := (List.getElem?_eq_some_iff.1 hq).1
  rcases h.2 with ⟨_, e⟩ | ⟨g, cp, cur, e, _, h3, h4, _, h6, h7⟩
  · omega
  · cases e
    refine ⟨g, rfl, (Joins.cell_of_block h3 q).trans ?_⟩
    have : (ints is)[q]? = some (.int .i64 (i : Nat)) := by simp [ints, hq]
    rw [← h7, List.getElem?_take, if_pos (by omega)] at this
    simpa using this

theorem flown_cells {w : World} {b0 len N B kb kc fc c : Nat} {V : Nat → Nat} {S E : Nat → Int} {ki : Ents} {ks : List Int} {vs : Nat → Value} {nv fv keyv : Value} {fp : Option Addr} (hKs : Ks w b0 len N V ki ks vs nv fv (.slice (some ⟨kb, 0, none⟩) ks.length kc) keyv) (hfv : fv = .slice fp len fc) (hC : Con w N B V S E c) (hc : c < len) (hN : N < B) (hB : B ≤ b0) (hkb : b0 + 3 ≤ kb) :
    ∃ fg, fp = some ⟨fg, 0, none⟩ ∧ ∀ W : World, (∀ k, k < w.heap.size → k ≠ kb → W.heap[k]? = w.heap[k]?) → W.cell? ⟨b0 + 2, 2, none⟩ = some (.slice (some ⟨fg, 0, none⟩) len fc) ∧ W.cell? ⟨fg, c, none⟩ = some (.pointer (some ⟨N, c * 9, none⟩)) ∧ W.cell? ⟨N, c * 9 + 3, none⟩ = some (.int .u64 0) ∧ W.cell? ⟨N, c * 9 + 4, none⟩ = some (.int .i64 (S c)) ∧ W.cell? ⟨N, c * 9 + 5, none⟩ = some (.pointer none) ∧ W.cell? ⟨N, c * 9 + 6, none⟩ = some (.int .u64 0) ∧ W.cell? ⟨N, c * 9 + 7, none⟩ = some (.int .i64 (E c)) ∧ W.cell? ⟨N, c * 9 + 8, none⟩ = some (.pointer none) := by
  have hlo := hKs.lo
  have hbx := hKs.box
  have hfl := hKs.flown
  rw [hfv] at hfl hbx
  obtain ⟨fg, cc, e⟩ := Joins.ownsRow_form hfl (by omega)
  injection e with e1 _ _
  subst e1
  obtain ⟨_, f1, f2⟩ := owns_cell hfl (j := c) (u := cptr N c) (by simp [hc])
  have hne : fg ≠ kb := fun e => by
    subst e
    obtain ⟨_, cu, hcu⟩ := own_block hfl (g := fg) rfl
    obtain ⟨_, cu2, hcu2⟩ := own_block hKs.kinds (g := fg) rfl
    rw [hcu] at hcu2
    cases hcu2
  refine ⟨fg, rfl, fun W hW => ?_⟩
  have hN' : ∀ o, W.cell? ⟨N, o, none⟩ = w.cell? ⟨N, o, none⟩ := fun o => cell_block_eq (hW N (by omega) (by omega))
  refine ⟨?_, (cell_block_eq (hW fg f1 hne)).trans f2, (hN' _).trans hC.c3, (hN' _).trans hC.c4, (hN' _).trans hC.c5, (hN' _).trans hC.c6, (hN' _).trans hC.c7, (hN' _).trans hC.c8⟩
  exact (cell_block_eq (hW (b0 + 2) hlo (by omega))).trans (Joins.cell_of_block hbx 2)

set_option linter.unusedSimpArgs false in
set_option maxRecDepth 100000 in
set_option maxHeartbeats 2000000 in
theorem bnd_C (b0 len N B kb kc : Nat) (V : Nat → Nat) (S E : Nat → Int) (ki : Ents) (ks : List Int) (vs : Nat → Value) (nv fv keyv : Value) (w : World) (hKs : Ks w b0 len N V ki ks vs nv fv (.slice (some ⟨kb, 0, none⟩) ks.length kc) keyv) (hK : ks.length ≤ 300) (hlen : len ≤ 300) (hN : N < B) (hB : B ≤ b0) (hC : ∀ i, i < len → Con w N B V S E i)
    (R : Ending → World → Prop) (hR : ∀ bv w', BEnd w b0 kb kc len V S E ks vs bv nv fv keyv w' → R (.returned (.tuple #[])) w') (fw : Value) (fl : Nat → Value) (wr : World) (hBS : BSt w ks vs V len fw fl wr) (c1 c3 c4 c6 c7 c8 c9 c10 c11 c12 c13 c14 c15 c16 c17 c18 c19 c20 c21 c22 c23 c24 c25 c26 c27 c28 c29 c30 c31 c32 c33 c34 c35 c36 c37 c38 c39 c40 c41 c42 c43 c44 c45 c46 c47 c48 c49 c50 c51 c52 c53 c54 c55 c56 c57 c58 c59 c60 c61 c62 c63 c64 c65 c66 c67 c68 c69 c70 c71 c72 c73 c74 c75 c76 c77 c78 c79 c80 c81 c82 c83 c84 c85 c86 c87 c88 c89 c90 c91 c92 c93 c94 c95 c96 c97 c98 c99 c100 c101 c102 c103 c104 c105 c106 c107 c108 c109 c110 c111 c112 c113 c114 c115 c116 c117 c118 c119 c120 c121 c122 c123 c124 c125 c126 c127 c128 c129 c130 c131 c132 c133 c134 c135 c136 c137 c138 c139 c140 c141 c142 c143 : Value) :
    bndC.wp Ybaz.prog (bodyPost Ybaz.prog Ybaz.f37 R) ⟨#[.pointer (some ⟨b0 + 2, 0, none⟩), c1, .slice (some ⟨kb, 0, none⟩) ks.length kc, c3, c4, .slice (some ⟨w.heap.size + 1, 0, none⟩) ks.length ks.length, c6, c7, c8, c9, c10, c11, c12, c13, c14, c15, c16, c17, c18, c19, c20, c21, c22, c23, c24, c25, c26, c27, c28, c29, c30, c31, c32, c33, c34, c35, c36, c37, c38, c39, c40, c41, c42, c43, c44, c45, c46, c47, c48, c49, c50, c51, c52, c53, c54, c55, c56, c57, c58, c59, c60, c61, c62, c63, c64, c65, c66, c67, c68, c69, c70, c71, c72, c73, c74, c75, c76, c77, c78, c79, c80, c81, c82, c83, c84, c85, c86, c87, c88, c89, c90, c91, c92, c93, c94, c95, c96, c97, c98, c99, c100, c101, c102, c103, c104, c105, c106, c107, c108, c109, c110, c111, c112, c113, c114, c115, c116, c117, c118, c119, c120, c121, c122, c123, c124, c125, c126, c127, c128, c129, c130, c131, c132, c133, c134, c135, c136, c137, c138, c139, c140, c141, c142, c143], []⟩ wr := by
  have hAR : Aside (∀ bv w', BEnd w b0 kb kc len V S E ks vs bv nv fv keyv w' → R (.returned (.tuple #[])) w') := hR
  have hA : Aside (Ks w b0 len N V ki ks vs nv fv (.slice (some ⟨kb, 0, none⟩) ks.length kc) keyv ∧ ∀ i, i < len → Con w N B V S E i) := ⟨hKs, hC⟩
  have hAT : Aside (TSt w kb kc len V S E ks vs 0 (.slice none 0 0) fl (fun _ => .slice none 0 0) wr) := hBS.tst hKs
  have hkc : ks.length ≤ kc := by
    obtain ⟨_, ⟨e, _⟩ | ⟨g, cp, cur, e, _, _, h4, _⟩⟩ := hKs.kinds
    · cases e
    · cases e; exact h4
  obtain ⟨fp, fc, hfv⟩ := own_form hKs.flown
  have hlo := hKs.lo
  have hne2 : b0 + 2 ≠ kb := fun e => by
    obtain ⟨_, cur, hc⟩ := own_block hKs.kinds (g := kb) rfl
    rw [← e, hKs.box] at hc
    cases hc
  have hkb3 : b0 + 3 ≤ kb := (own_block hKs.kinds (g := kb) rfl).1
  -- the record, in every state
  have hbox : ∀ (j : Nat) (tv0 : Value) (bv : Nat → Value) (W : World), TSt w kb kc len V S E ks vs j tv0 fl bv W → W.heap[b0 + 2]? = some (.cells #[.map (some b0), nv, fv, .map (some (b0 + 1)), .slice (some ⟨kb, 0, none⟩) ks.length kc, .int .i64 0, keyv] 90 (0, 0)) := fun j tv0 bv W hT => (hT.block _ hlo hne2).trans hKs.box
  have hAbox : Aside (∀ (j : Nat) (tv0 : Value) (bv : Nat → Value) (W : World), TSt w kb kc len V S E ks vs j tv0 fl bv W → W.heap[b0 + 2]? = some (.cells #[.map (some b0), nv, fv, .map (some (b0 + 1)), .slice (some ⟨kb, 0, none⟩) ks.length kc, .int .i64 0, keyv] 90 (0, 0))) := hbox
  clear hR hKs hC hBS hbox
  conv => arg 2; whnf
  go_wp2
  rename_i K1 hK1
  have hK1' : Aside (∀ (a : Act) (w : World), _ → K1 a w) := hK1
  clear hK1
  go_loopg [85, 12] (ks.length + 1) (fun q v85 v12 wx => ∃ (j : Nat) (tv0 : Value) (bv : Nat → Value), v85 = .int .i64 j ∧ v12 = tv0 ∧ j ≤ ks.length ∧ ks.length - j < q ∧ TSt w kb kc len V S E ks vs j tv0 fl bv wx)
  case atStart => exact ⟨0, _, _, rfl, rfl, Nat.zero_le _, by omega, hAT.out⟩
  case round =>
    obtain ⟨j, tv0, bv, rfl, hv12, hjK, hq, hT⟩ := hrel
    obtain rfl := hv12.symm
    clear hv12
    by_cases hlt : j < ks.length
    · obtain ⟨k, hjk⟩ : ∃ k, ks[j]? = some k := ⟨_, List.getElem?_eq_getElem hlt⟩
      obtain ⟨tn, txs, htm⟩ := hT.tm
      have hsl := run_cut0 htm
      obtain ⟨jp, jc, hfj⟩ := own_form (hT.rows j k hjk)
      have hfc : wr.cell? ⟨w.heap.size + 1, j, none⟩ = some (fl j) := (Joins.cell_of_block hT.flb j).trans (by simp [hlt])
      rw [hfj] at hfc
      have hlt' : (j : Int) < (ks.length : Int) := by omega
      obtain ⟨L, hL⟩ : ∃ L, (flK V len k).length = L := ⟨_, rfl⟩
      have hLl : L ≤ 300 := by have := flK_le V len k; omega
      rw [hL] at hfc
      have hAT1 : Aside (TSt w kb kc len V S E ks vs j (cut0 tv0) fl bv wr ∧ wr.ownsRow (w.heap.size + 2) 29 3 (cut0 tv0) 0 []) := ⟨hT.keep (grown_below (Below.refl _ _)) ⟨_, _, owns_cut0 htm⟩ (.inl (cut0_own tv0)), owns_cut0 htm⟩
      have hAF : Aside (∀ i : Nat, ks[i]? = some k → fl i = .slice jp L jc → True) := fun _ _ _ => trivial
      clear hT htm
      go_wp2
      rename_i K2 hK2
      have hK2' : Aside (∀ (a : Act) (w : World), _ → K2 a w) := hK2
      clear hK2 hsl hfc
      go_loopg [95, 12] (L + 1) (fun r v95 v12 wx => ∃ (q : Nat) (tv1 : Value), v95 = .int .i64 q ∧ v12 = tv1 ∧ q ≤ L ∧ L - q < r ∧ TSt w kb kc len V S E ks vs j tv1 fl bv wx ∧ wx.ownsRow (w.heap.size + 2) 29 3 tv1 (q * 2) ((tmL S E ((flK V len k).take q)).flatMap encT))
      case atStart => exact ⟨0, _, rfl, rfl, Nat.zero_le _, by omega, hAT1.out.1, by simpa [tmL] using hAT1.out.2⟩
      case round =>
        obtain ⟨q, tv1, rfl, hv12, hqL, hr, hT, hrow⟩ := hrel
        obtain rfl := hv12.symm
        clear hv12
        by_cases hlt2 : q < L
        · obtain ⟨c, hc⟩ : ∃ c, (flK V len k)[q]? = some c := ⟨_, List.getElem?_eq_getElem (by omega)⟩
          have hcl : c < len := flK_lt (List.mem_of_getElem? hc)
          have hrj := hT.rows j k hjk
          rw [hfj] at hrj
          obtain ⟨jg, rfl, hjc⟩ := own_cell_int hrj hc
          obtain ⟨hKs, hC⟩ := hA.out
          obtain ⟨fg, rfl, hS⟩ := flown_cells hKs hfv (hC c hcl) hcl hN hB hkb3
          have hSw := hS wr hT.block
          have hsz := hT.size
          have hq2 : q * 2 ≤ 2000 := by omega
          have hAT2 : Aside (TSt w kb kc len V S E ks vs j tv1 fl bv wr ∧ wr.ownsRow (w.heap.size + 2) 29 3 tv1 (q * 2) ((tmL S E ((flK V len k).take q)).flatMap encT)) := ⟨hT, hrow⟩
          have hkeep : ∀ w' : World, wr.grownBy w' tv1.ownBlock → w'.cell? ⟨b0 + 2, 2, none⟩ = some (.slice (some ⟨fg, 0, none⟩) len fc) ∧ w'.cell? ⟨fg, c, none⟩ = some (.pointer (some ⟨N, c * 9, none⟩)) ∧ w'.cell? ⟨N, c * 9 + 3, none⟩ = some (.int .u64 0) ∧ w'.cell? ⟨N, c * 9 + 4, none⟩ = some (.int .i64 (S c)) ∧ w'.cell? ⟨N, c * 9 + 5, none⟩ = some (.pointer none) ∧ w'.cell? ⟨N, c * 9 + 6, none⟩ = some (.int .u64 0) ∧ w'.cell? ⟨N, c * 9 + 7, none⟩ = some (.int .i64 (E c)) ∧ w'.cell? ⟨N, c * 9 + 8, none⟩ = some (.pointer none) := fun w' hg => hS w' (fun k' k1 k2 => (hg.block k' (by omega) (fun e => by have := (own_block hrow e.symm).1; omega)).trans (hT.block k' k1 k2))
          have hlt2' : (q : Int) < (L : Int) := by omega
          clear hKs hC hT hS
          go_wp2
          refine bnd_r28 b0 N fg fc len c (w.heap.size + 2) (q * 2) (S c) (E c) tv1 _ wr hSw hcl hAT2.out.2 hsz hq2 hkeep _ _ _ _ _ _ _ _ _ _ _ _ _ _ _ _ _ _ _ _ _ _ _ _ _ _ _ _ _ _ _ _ _ _ _ _ _ _ _ _ _ _ _ _ _ _ _ _ _ _ _ _ _ _ _ _ _ _ _ _ _ _ _ _ _ _ _ _ _ _ _ _ _ _ _ _ _ _ _ _ _ _ _ _ _ _ _ _ _ _ _ _ _ _ _ _ _ _ _ _ _ _ _ _ _ _ _ _ _ _ _ _ _ _ _ _ _ _ _ _ _ _ _ _ _ _ _ _ _ _ _ _ _ _ _ _ _ _ _ _ _ _ _ (fun g cap w' e99 e100 e101 e102 e103 e104 e105 e106 e107 e108 e109 e110 e111 e112 e113 e114 e115 e116 e117 e118 e119 e120 e121 hown2 hg2 hlie2 => ?_)
          clear hSw hkeep hrow
          have hnx : (flK V len k).take (q + 1) = (flK V len k).take q ++ [c] := take_next hc
          have hrow3 : w'.ownsRow (w.heap.size + 2) 29 3 (.slice (some ⟨g, 0, none⟩) (q * 2 + 2) cap) ((q + 1) * 2) ((tmL S E ((flK V len k).take (q + 1))).flatMap encT) := by
            rw [hnx, tmL_snoc, List.flatMap_append, show (q + 1) * 2 = q * 2 + 2 by omega]
            exact hown2
          have hT3 := hAT2.out.1.keep hg2 ⟨_, _, hrow3⟩ (hlie2.symm.imp (fun h g' e => by injection e with e; subst e; exact h) (fun h => h.symm) |>.symm)
          have hAT3 : Aside (TSt w kb kc len V S E ks vs j (.slice (some ⟨g, 0, none⟩) (q * 2 + 2) cap) fl bv w' ∧ w'.ownsRow (w.heap.size + 2) 29 3 (.slice (some ⟨g, 0, none⟩) (q * 2 + 2) cap) ((q + 1) * 2) ((tmL S E ((flK V len k).take (q + 1))).flatMap encT)) := ⟨hT3, hrow3⟩
          clear hT3 hrow3 hown2 hg2 hlie2
          go_wp2
          go_roundg (L - q)
          case measure => omega
          case rel => exact ⟨q + 1, _, by go_num, rfl, by omega, by omega, hAT3.out.1, hAT3.out.2⟩
        · obtain rfl : q = L := by omega
          have hrow' : wr.ownsRow (w.heap.size + 2) 29 3 tv1 (tmL S E (flK V len k)).length ((tmL S E (flK V len k)).flatMap encT) := by
            rw [tmL_length, hL]
            rwa [List.take_of_length_le (by omega)] at hrow
          have htl : (tmL S E (flK V len k)).length ≤ 1000 := by rw [tmL_length]; omega
          have hsort := sortT_row hrow' htl
          have hAT2 : Aside (TSt w kb kc len V S E ks vs j tv1 fl bv wr) := hT
          clear hT hrow hrow'
          go_wp2
          refine hK2'.out _ _ ?_
          clear hK2'
          go_wp2_with (go_at_call 57; refine hsort.mono ?_; rintro e w1 ⟨rfl, hg1, hr1⟩; refine Veil.off ?_)
          unfold Veil
          have hT1 := hAT2.out.keep hg1 ⟨_, _, hr1⟩ (.inl rfl)
          have hr1' : w1.ownsRow (w.heap.size + 2) 29 3 tv1 (sortI (tmL S E (flK V len k))).length ((sortI (tmL S E (flK V len k))).flatMap encT) := by rw [sortI_length]; exact hr1
          have hcomp := compT_row hr1' (by rw [sortI_length]; exact htl)
          have hAT3 : Aside (TSt w kb kc len V S E ks vs j tv1 fl bv w1) := hT1
          clear hsort hg1 hr1 hr1' hT1
          go_wp2_with (go_at_call 60; refine hcomp.mono ?_; rintro e w2 ⟨tv2, rfl, ho2, hg2, hr2, hxs2⟩; refine Veil.off ?_)
          unfold Veil
          obtain ⟨xs2, hrt2⟩ := hxs2
          have hT2 := hAT3.out.keep hg2 ⟨_, _, hrt2⟩ (.inl rfl)
          have hcl2 : (compact (sortI (tmL S E (flK V len k)))).length ≤ 1000 := Nat.le_trans (compact_le _) (by rw [sortI_length]; exact htl)
          have hclone := cloneT_row hr2 hcl2
          have hAT4 : Aside (TSt w kb kc len V S E ks vs j tv1 fl bv w2 ∧ ∃ n xs, w2.ownsRow (w.heap.size + 2) 29 3 tv1 n xs) := ⟨hT2, _, _, hrt2⟩
          clear hcomp ho2 hg2 hr2 hrt2 hT2
          go_wp2_with (go_at_call 59; refine hclone.mono ?_; rintro e w3 ⟨v3, rfl, hb3, hr3⟩; refine Veil.off ?_)
          unfold Veil
          obtain ⟨p3, c3', rfl⟩ := own_form hr3
          obtain ⟨hT2, n2, xs2', hrt2⟩ := hAT4.out
          have hsz2 := hT2.size
          have hT3 := hT2.keep (grown_below hb3) ⟨_, _, row_below hrt2 hb3⟩ (.inl rfl)
          have hr3' : w3.ownsRow (w.heap.size + 2) 29 3 (.slice p3 (compact (sortI (tmL S E (flK V len k)))).length c3') (bdK V S E len k).length ((bdK V S E len k).flatMap encT) := row_base hr3 hsz2
          obtain ⟨n1, n2', n3, n4, hTn⟩ := hT3.next hjk hkc hr3' (fun g hg e => by
            have h1 := (own_block hr3 hg).1
            obtain ⟨_, cu, hcu⟩ := own_block hrt2 e
            have h2 := (Array.getElem?_eq_some_iff.1 hcu).1
            omega)
          have hATn : Aside (TSt w kb kc len V S E ks vs (j + 1) tv1 fl (fun i => if i = j then .slice p3 (compact (sortI (tmL S E (flK V len k)))).length c3' else bv i) ((w3.setCell ⟨kb, j * 2 + 1, none⟩ (.slice p3 (compact (sortI (tmL S E (flK V len k)))).length c3')).setCell ⟨w.heap.size + 1, j, none⟩ (.slice none 0 0))) := hTn
          clear hclone hb3 hr3 hT2 hrt2 hT3 hr3' hTn
          go_wp2
          go_roundg (ks.length - j)
          case measure => omega
          case rel => exact ⟨j + 1, _, _, by go_num, rfl, by omega, by omega, hATn.out⟩
    · obtain rfl : j = ks.length := by omega
      have hbx := hAbox.out _ _ _ _ hT
      have b4 : wr.cell? ⟨b0 + 2, 4, none⟩ = some (.slice (some ⟨kb, 0, none⟩) ks.length kc) := Joins.cell_of_block hbx 4
      have b5 : wr.cell? ⟨b0 + 2, 5, none⟩ = some (.int .i64 0) := Joins.cell_of_block hbx 5
      have f5 : wr.frozen? ⟨b0 + 2, 5, none⟩ = false := Joins.unfrozen_of_block hbx 5
      have hend : BEnd w b0 kb kc len V S E ks vs bv nv fv keyv (wr.setCell ⟨b0 + 2, 5, none⟩ (.int .i64 ks.length)) := by
        have hs : ∀ k, k ≠ b0 + 2 → (wr.setCell ⟨b0 + 2, 5, none⟩ (.int .i64 ks.length)).heap[k]? = wr.heap[k]? := fun k hk => Below.heap_setCell _ _ _ _ hk
        obtain ⟨cur, k1, k2, k3⟩ := hT.kinds
        have hsz := hT.size
        refine ⟨hT.os, hT.tape, hT.output, by simp [World.setCell]; omega, fun k k1 k2 k3 => (hs k k3).trans (hT.block k k1 k2), hT.kbl, ⟨cur, (hs kb (fun e => hne2 e.symm)).trans k1, k2, k3⟩, ?_, fun i k hi => ?_⟩
        · have := Joins.block_setCell (i := 5) hbx (.int .i64 ks.length)
          simpa using this
        · have hr := hT.bnd i k (List.getElem?_eq_some_iff.1 hi).1 hi
          refine row_base (owns_far hr fun g hg => hs g ?_) (show w.heap.size ≤ w.heap.size + 2 by omega)
          have := (own_block hr hg).1
          omega
      have hAE : Aside (BEnd w b0 kb kc len V S E ks vs bv nv fv keyv (wr.setCell ⟨b0 + 2, 5, none⟩ (.int .i64 ks.length))) := hend
      clear hend hbx hT
      go_wp2
      refine hK1'.out _ _ ?_
      go_wp2
      go_end0
      exact hAR.out _ _ hAE.out

/-- bound. -/
theorem bound37 (b0 len N B kb kc : Nat) (V : Nat → Nat) (S E : Nat → Int) (ki : Ents) (ks : List Int) (vs : Nat → Value) (nv fv keyv : Value) (w : World) (hKs : Ks w b0 len N V ki ks vs nv fv (.slice (some ⟨kb, 0, none⟩) ks.length kc) keyv) (hK0 : 0 < ks.length) (hK : ks.length ≤ 300) (hnd : ks.Nodup) (hr : ∀ x ∈ ks, -1 ≤ x ∧ x ≤ 2) (hlen : len ≤ 300) (hN : N < B) (hB : B ≤ b0) (hC : ∀ i, i < len → Con w N B V S E i) :
    Calls Ybaz.prog 37 #[.pointer (some ⟨b0 + 2, 0, none⟩)] w fun e w' => e = .returned (.tuple #[]) ∧ ∃ bv, BEnd w b0 kb kc len V S E ks vs bv nv fv keyv w' := by
  have hlo := hKs.lo
  refine bnd_AB b0 len N B kb kc V S E ki ks vs nv fv keyv w hKs hK0 hK hnd hr hlen hN (by omega) hC _ (fun fw fl wr hBS => ?_)
  intros
  exact bnd_C b0 len N B kb kc V S E ki ks vs nv fv keyv w hKs hK hlen hN hB hC _ (fun bv w' hE => ⟨rfl, bv, hE⟩) fw fl wr hBS _ _ _ _ _ _ _ _ _ _ _ _ _ _ _ _ _ _ _ _ _ _ _ _ _ _ _ _ _ _ _ _ _ _ _ _ _ _ _ _ _ _ _ _ _ _ _ _ _ _ _ _ _ _ _ _ _ _ _ _ _ _ _ _ _ _ _ _ _ _ _ _ _ _ _ _ _ _ _ _ _ _ _ _ _ _ _ _ _ _ _ _ _ _ _ _ _ _ _ _ _ _ _ _ _ _ _ _ _ _ _ _ _ _ _ _ _ _ _ _ _ _ _ _ _ _ _ _ _ _ _ _ _ _ _ _ _ _ _ _ _
end Go.Proofs.YbulkcelaGreatDoor
