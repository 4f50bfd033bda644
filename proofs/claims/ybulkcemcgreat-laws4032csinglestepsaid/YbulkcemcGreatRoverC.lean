/-
  LawS4032CSingleStep: 'refillsOver' behind its second loop (seat b4032aZ).
-/
import Derived.Test.YbulkcemcGreatDoes
namespace Go.Proofs.YbulkcemcGreat
open Go.RowKit Go.Shelf Go.Lib Go.Sort

noncomputable def roC : Code := (Ybaz.f6.body.bind (fromR 15)).getD .skip

/-- What the span's maps are, group by group. -/
def doesD (S : List Int) (P : List GP) : List (Int × List Nat) := P.map fun x => (x.1, rmap S x.2.1)

/-- All maps are laid. -/
structure DoneI (B : Nat) (w0 : World) (spb vb cap step sb sc ab : Nat) (P : List GP) (S : List Int) (wr : World) : Prop where
  low : Below B w0 wr
  span : SpanAt wr spb vb P.length S.length (doesD S P)
  c0 : wr.cell? ⟨spb, 0, none⟩ = some (.int .i64 step)
  c1 : wr.cell? ⟨spb, 1, none⟩ = some (.int .i64 0)
  arr : wr.cell? ⟨ab, 1, none⟩ = some (.slice none 0 0)
  ge : B ≤ wr.heap.size

set_option linter.unusedSimpArgs false in
set_option maxRecDepth 100000 in
set_option maxHeartbeats 1000000 in
theorem rover_C (B spb vb cap sb sc step N r : Nat) (G : List (Int × List Int)) (vs : Nat → Value) (S : List Int) (lo hi : Int) (w0 w : World) (hw0 : Below B w0 w) (hg : GrpsAt B w (.slice (some ⟨vb, 0, none⟩) G.length cap) G vs) (hnd : (G.map (·.1)).Nodup) (hl : G.length ≤ 1000) (hne : ∀ k, k < G.length → endG G k ≠ []) (hfew : ∀ k, k < G.length → (endG G k).length ≤ 1000) (hGS : ∀ k, k < G.length → ∀ x ∈ endG G k, x ∈ S)
    (hpB : spb < B) (hsB : sb < B) (hB : B ≤ w.heap.size) (hS : SmsAt w sb S)
    (k0 : w.cell? ⟨spb, 0, none⟩ = some (.int .i64 step)) (k1 : w.cell? ⟨spb, 1, none⟩ = some (.int .i64 0)) (k2 : w.cell? ⟨spb, 2, none⟩ = some (.slice (some ⟨vb, 0, none⟩) G.length cap)) (k3 : w.cell? ⟨spb, 3, none⟩ = some (.slice none 0 0)) (k4 : w.cell? ⟨spb, 4, none⟩ = some (.slice (some ⟨sb, 0, none⟩) S.length sc))
    (hs0 : 0 < step) (hs1 : step ≤ 1000) (hr : r < step) (hN : N ≤ 100000) (hd : hi - lo = ((N * step + r : Nat) : Int)) (R : Ending → World → Prop)
    (hRes : ∀ P : List GP, (P.map fun x => (x.1, x.2.1)).Perm G → (P.Pairwise fun x y => x.1 < y.1) → ∀ v w', MapAt w' v (thenL (powL S.length (spanD (doesD S P) S.length step) N) (spanD (doesD S P) S.length r)) → Below B w0 w' → R (.returned v) w') (c0 c3 c4 c5 c6 c7 c8 c10 c11 c12 c13 c14 c15 c16 c17 c18 c19 c20 c21 c22 c23 c24 c25 c26 c27 c28 c29 c30 c31 c32 c33 c34 c35 c36 c37 c38 c39 c40 c41 c42 c43 c44 c45 c46 c47 c48 c49 c50 c51 c52 c53 c54 c55 c56 c57 c58 c59 c60 c61 c62 c63 c64 c65 c66 c67 c68 c69 c70 c71 c72 c73 c74 c75 c76 c77 c78 c79 c80 c81 c82 c83 c84 c85 c86 c87 c88 c89 c90 c91 c92 c93 c94 c95 c96 c97 c98 c99 c100 c101 c102 c103 c104 c105 c106 c107 c108 c109 c110 c111 c112 c113 c114 c115 c116 c117 c118 c119 c120 c121 c122 c123 c124 c125 c126 c127 c128 c129 c130 c131 c132 c133 c134 c135 c136 c137 c138 c139 c140 c141 c142 c143 c144 c145 c146 c147 c148 c149 c150 c151 c152 c153 c154 c155 c156 c157 c158 c159 c160 c161 c162 c163 c164 c165 c166 c167 c168 c169 c170 c171 c172 c173 c174 c175 c176 c177 c178 c179 c180 c181 c182 c183 c184 c185 c186 c187 c188 c189 : Value) :
    roC.wp Ybaz.prog (bodyPost Ybaz.prog Ybaz.f6 R) ⟨#[c0, .int .i64 lo, .int .i64 hi, c3, c4, c5, c6, c7, c8, .pointer (some ⟨spb, 0, none⟩), c10, c11, c12, c13, c14, c15, c16, c17, c18, c19, c20, c21, c22, c23, c24, c25, c26, c27, c28, c29, c30, c31, c32, c33, c34, c35, c36, c37, c38, c39, c40, c41, c42, c43, c44, c45, c46, c47, c48, c49, c50, c51, c52, c53, c54, c55, c56, c57, c58, c59, c60, c61, c62, c63, c64, c65, c66, c67, c68, c69, c70, c71, c72, c73, c74, c75, c76, c77, c78, c79, c80, c81, c82, c83, c84, c85, c86, c87, c88, c89, c90, c91, c92, c93, c94, c95, c96, c97, c98, c99, c100, c101, c102, c103, c104, c105, c106, c107, c108, c109, c110, c111, c112, c113, c114, c115, c116, c117, c118, c119, c120, c121, c122, c123, c124, c125, c126, c127, c128, c129, c130, c131, c132, c133, c134, c135, c136, c137, c138, c139, c140, c141, c142, c143, c144, c145, c146, c147, c148, c149, c150, c151, c152, c153, c154, c155, c156, c157, c158, c159, c160, c161, c162, c163, c164, c165, c166, c167, c168, c169, c170, c171, c172, c173, c174, c175, c176, c177, c178, c179, c180, c181, c182, c183, c184, c185, c186, c187, c188, c189], []⟩ w := by
  conv => arg 2; whnf
  have hA : Aside (GrpsAt B w (.slice (some ⟨vb, 0, none⟩) G.length cap) G vs ∧ SmsAt w sb S) := ⟨hg, hS⟩
  have hvb := hg.row.lt vb rfl
  clear hg hS
  have hpw : spb < w.heap.size := by omega
  have hSof : ∀ w' : World, Below w.heap.size w w' → Below w.heap.size w w' ∧ w'.cell? ⟨spb, 2, none⟩ = some (.slice (some ⟨vb, 0, none⟩) G.length cap) ∧ w'.cell? ⟨spb, 3, none⟩ = some (.slice none 0 0) := fun w' hb =>
    ⟨hb, (hb.cell (p := ⟨spb, 2, none⟩) hpw).trans k2, (hb.cell (p := ⟨spb, 3, none⟩) hpw).trans k3⟩
  go_wp2
  refine wp_normal ?_
  go_region_held (fun w' => Below w.heap.size w w' ∧ w'.cell? ⟨spb, 2, none⟩ = some (.slice (some ⟨vb, 0, none⟩) G.length cap) ∧ w'.cell? ⟨spb, 3, none⟩ = some (.slice none 0 0))
    (first | exact hSof _ ((Below.refl _ _).drew) | exact hSof _ (((Below.refl _ _).drew).alloc (by simp) _)) (fail)
  obtain ⟨W1, hW1⟩ : ∃ W1, (w.alloc (.cells #[.slice (some ⟨vb, 0, none⟩) G.length cap, .slice none 0 0] 46)).drew = W1 := ⟨_, rfl⟩
  have hb1 : Below w.heap.size w W1 := by rw [← hW1]; exact ((Below.refl _ _).alloc (Nat.le_refl _) _).drew
  have hab : W1.heap[w.heap.size]? = some (.cells #[.slice (some ⟨vb, 0, none⟩) G.length cap, .slice none 0 0] 46 (0, 0)) := by
    rw [← hW1]; show (w.alloc _).heap[w.heap.size]? = _; rw [alloc_at, if_pos rfl]
  have hs1W : W1.heap.size = w.heap.size + 1 := by rw [← hW1]; show (w.alloc _).heap.size = _; simp
  show Exit.then _ _ Exit.normal _ _
  rw [hW1]
  have hsort := sort13 B vb cap G vs W1 (hA.out.1.below hb1) hnd hl hne
  have hk2 : Aside (w.cell? ⟨spb, 2, none⟩ = some (.slice (some ⟨vb, 0, none⟩) G.length cap)) := k2
  clear hW1 hSof k2
  go_wp2
  rename_i K1 hK1 hHeld
  have hK1' : Aside (∀ (a : Act) (w : World), _ → K1 a w) := hK1
  clear hK1 hHeld
  go_loopg [105] 3 (fun q vi wr => ∃ idx : Nat, vi = .int .i64 idx ∧ idx ≤ 2 ∧ 2 - idx < q ∧ ((idx = 0 ∧ wr = W1) ∨ (0 < idx ∧ ∃ P : List GP, (P.map fun x => (x.1, x.2.1)).Perm G ∧ (P.Pairwise fun x y => x.1 < y.1) ∧ DoneI B w0 spb vb cap step sb sc w.heap.size P S wr)))
  case atStart => exact ⟨0, rfl, by omega, by omega, .inl ⟨rfl, rfl⟩⟩
  case round =>
    obtain ⟨idx, rfl, hi2, hq, ⟨rfl, hw⟩ | ⟨hpos, P, hP1, hP2, hD⟩⟩ := hrel
    · rw [hw]
      clear hw wr
      have a0 : W1.cell? ⟨w.heap.size, 0, none⟩ = some (.slice (some ⟨vb, 0, none⟩) G.length cap) := Joins.cell_of_block hab 0
      go_wp2_with (go_at_call 13; refine hsort.mono ?_; rintro e w2 ⟨⟨v2, rfl⟩, hbut2, P, hSG, hPG⟩)
      clear hsort
      have hsz2 := hbut2.size
      have hPl : P.length = G.length := by have := hPG.length_eq; simpa using this
      have hPx : ∀ x ∈ P, x.2.1 ≠ [] ∧ x.2.1.length ≤ 1000 ∧ ∀ y ∈ x.2.1, y ∈ S := fun x hx => by
        have hm : (x.1, x.2.1) ∈ G := hPG.mem_iff.1 (List.mem_map.2 ⟨x, hx, rfl⟩)
        obtain ⟨k, hk, e⟩ := List.mem_iff_getElem.1 hm
        have he : endG G k = x.2.1 := by simp [endG, List.getD, hk, e]
        exact ⟨by rw [← he]; exact hne k hk, by rw [← he]; exact hfew k hk, by rw [← he]; exact hGS k hk⟩
      have hkeep : ∀ j, j < B → w2.heap[j]? = w.heap[j]? := fun j hj => (hbut2.same j (by omega) (by omega)).trans (hb1.block j (by omega))
      have hS2 : SmsAt w2 sb S := (hA.out.2.below hb1 (by omega)).of_but hbut2 (by omega)
      have m0 : w2.cell? ⟨spb, 0, none⟩ = some (.int .i64 step) := (World.cell?_of_block (hkeep spb hpB)).trans k0
      have m1 : w2.cell? ⟨spb, 1, none⟩ = some (.int .i64 0) := (World.cell?_of_block (hkeep spb hpB)).trans k1
      have m3 : w2.cell? ⟨spb, 3, none⟩ = some (.slice none 0 0) := (World.cell?_of_block (hkeep spb hpB)).trans k3
      have m4 : w2.cell? ⟨spb, 4, none⟩ = some (.slice (some ⟨sb, 0, none⟩) S.length sc) := (World.cell?_of_block (hkeep spb hpB)).trans k4
      have mab : w2.heap[w.heap.size]? = some (.cells #[.slice (some ⟨vb, 0, none⟩) G.length cap, .slice none 0 0] 46 (0, 0)) := (hbut2.same _ (by omega) (by omega)).trans hab
      have hbx : ∀ x ∈ P, B ≤ x.2.2.1 ∧ x.2.2.1 < w2.heap.size := fun x hx => (hSG.rows x hx).lt _ rfl
      have hlow2 : RowKit.Below B w0 w2 := (hw0.trans (hb1.mono hB)).trans (hbut2.low.mono hvb.1)
      have m2' : w2.cell? ⟨spb, 2, none⟩ = some (.slice (some ⟨vb, 0, none⟩) G.length cap) := (World.cell?_of_block (hkeep spb hpB)).trans hk2.out
      have hpre : RowKit.Below B w0 w2 ∧ SmsAt w2 sb S := ⟨hlow2, hS2⟩
      clear a0 hab
      go_loopg [113] (G.length + 1) (fun q vi wr => ∃ i : Nat, vi = .int .i64 i ∧ i ≤ G.length ∧ G.length - i < q ∧ DoesI B w2 vb cap P S i wr)
      case atStart =>
        refine ⟨0, rfl, Nat.zero_le _, by omega, Nat.le_refl _, RowKit.Below.refl _ _, fun _ _ _ _ => rfl, ?_, fun k x _ hx => hSG.rows x (List.mem_of_getElem? hx)⟩
        obtain ⟨cur, e1, e2, e3⟩ := hSG.blk
        exact ⟨cur, e1, e2, e3, fun k x hk => absurd hk (Nat.not_lt_zero _)⟩
      case round =>
        obtain ⟨i, rfl, hiG, hq2, hI⟩ := hrel
        have hsp : ∀ j, j < B → wr.heap[j]? = w2.heap[j]? := fun j hj => hI.other j (by omega) (by omega) (fun x hx => by have := hbx x hx; omega)
        have hszr := hI.size
        by_cases hlt : i < G.length
        · obtain ⟨x, hx⟩ : ∃ x, P[i]? = some x := ⟨_, List.getElem?_eq_getElem (by omega)⟩
          have hxP : x ∈ P := List.mem_of_getElem? hx
          obtain ⟨cur, b1, b2, b3, b4⟩ := hI.blk
          obtain ⟨b5, b6⟩ := b3 i x hx
          have hcap := hSG.few
          have d1 : wr.cell? ⟨vb, i * 3 + 1, none⟩ = some (.slice (some ⟨x.2.2.1, 0, none⟩) x.2.1.length x.2.2.2) := (Joins.cell_of_block b1 _).trans b6
          obtain ⟨x1, x2, x3⟩ := hPx x hxP
          have hSr : SmsAt wr sb S := ⟨by omega, fun j hj => (World.cell?_of_block (hsp sb hsB)).trans (hS2.ints j hj), hS2.pos, hS2.few, hS2.sorted, hS2.small⟩
          have hrf := refill16 spb sb sc x.2.2.1 x.2.2.2 S x.2.1 wr ((World.cell?_of_block (hsp spb hpB)).trans m4) hSr (by have := hbx x hxP; omega) (by have := hbx x hxP; omega) (holds_of_row (hI.rows i x (Nat.le_refl _) hx)) x1 x3 x2
          have hlt' : (i : Int) < (G.length : Int) := by omega
          have hvbx : vb ≠ x.2.2.1 := fun e => hSG.apart x hxP e.symm
          have hA3 : Aside (DoesI B w2 vb cap P S i wr) := hI
          have hcs : i * 3 + 2 < cur.size := by omega
          clear hI b3 b4 hSr
          obtain ⟨xa, xE, xb, xc⟩ := x
          simp only at d1 hrf hvbx b5 b6 x1 x2 x3
          go_wp2_with (go_at_call 16; refine hrf.mono ?_; rintro e w3 ⟨v3, rfl, hm3, hbut3, hq3⟩; refine Veil.off ?_)
          unfold Veil
          have b1' : w3.heap[vb]? = some (.cells cur 54 (0, 0)) := (hbut3.same vb hvbx (by omega)).trans b1
          have d2 : w3.cell? ⟨vb, i * 3 + 2, none⟩ = some cur[i * 3 + 2] := (Joins.cell_of_block b1' _).trans (by simp [hcs])
          have f2 := Joins.unfrozen_of_block b1' (i * 3 + 2)
          obtain ⟨g3, cc3, hv3, hg3, hc3⟩ := hm3
          have hm3 : MapAt w3 v3 (rmap S xE) := ⟨g3, cc3, hv3, hg3, hc3⟩
          have hst := hA3.out.step hSG hx hbut3 hm3 hq3
          generalize cur[i * 3 + 2] = old at d2
          clear hrf b1 b1' d1 b5 b6 hc3
          subst hv3
          go_wp2
          go_roundg (G.length - i)
          case measure => omega
          case rel => exact ⟨i + 1, by go_num, by omega, by omega, hst⟩
        · obtain rfl : i = G.length := by omega
          go_wp2
          go_roundg (2 - 0)
          case measure => omega
          case rel =>
            refine ⟨1, by go_num, by omega, by omega, .inr ⟨by omega, P, hPG, hSG.sorted, hlow2.trans hI.low, ?_, (World.cell?_of_block (hsp spb hpB)).trans m0, (World.cell?_of_block (hsp spb hpB)).trans m1, ?_, by omega⟩⟩
            · obtain ⟨cur, b1, b2, b3, b4⟩ := hI.blk
              refine ⟨by omega, by omega, ⟨cap, ?_⟩, (World.cell?_of_block (hsp spb hpB)).trans m3, ⟨sb, sc, (World.cell?_of_block (hsp spb hpB)).trans m4⟩, by simp [doesD], fun k a d hk => ?_⟩
              · rw [hPl]; exact (World.cell?_of_block (hsp spb hpB)).trans m2'
              · unfold doesD at hk
                rw [List.getElem?_map] at hk
                cases hx : P[k]? with
                | none => rw [hx] at hk; cases hk
                | some x =>
                  rw [hx] at hk
                  cases hk
                  have hkl := (List.getElem?_eq_some_iff.1 hx).1
                  obtain ⟨e1, _⟩ := b3 k x hx
                  obtain ⟨dv, e2, e3, _⟩ := b4 k x (by omega) hx
                  obtain ⟨x1, x2, x3⟩ := hPx x (List.mem_of_getElem? hx)
                  exact ⟨(Joins.cell_of_block b1 _).trans e1, dv, (Joins.cell_of_block b1 _).trans e2, e3, ok_rmap x1 x3 x2⟩
            · have hab2 : wr.heap[w.heap.size]? = w2.heap[w.heap.size]? := hI.other _ (by omega) (by omega) (fun x hx e => by
                obtain ⟨_, ⟨e1, _⟩ | ⟨g, cp, cu, e1, _, hh, _⟩⟩ := hSG.rows x hx
                · cases e1
                · cases e1
                  rw [← e, mab] at hh
                  cases hh)
              exact (World.cell?_of_block hab2).trans (Joins.cell_of_block mab 1)
    · rcases (show idx = 1 ∨ idx = 2 by omega) with rfl | rfl
      · have a1 := hD.arr
        have hnn := none13
        go_wp2_with (go_at_call 13; refine (hnn _ _).mono ?_; rintro e w' ⟨rfl, hw'⟩; rw [hw']; clear hw' w')
        go_loopg [113] 1 (fun _ vi wx => vi = .int .i64 0 ∧ wx = wr)
        case atStart => exact ⟨rfl, rfl⟩
        case round =>
          obtain ⟨rfl, hwx⟩ := hrel
          rw [hwx]
          go_wp2
          go_roundg (2 - 1)
          case measure => omega
          case rel => exact ⟨2, by go_num, by omega, by omega, .inr ⟨by omega, P, hP1, hP2, hD⟩⟩
      · go_wp2
        obtain ⟨q1, q2, q3, q4, q5, q6⟩ := hD
        exact hK1'.out _ _ (rover_D spb vb P.length S.length (doesD S P) step N r lo hi w0 wr B q6 q1 q2 hA.out.2.few (by have := hP1.length_eq; simp at this; omega) hs0 hs1 hr hN hd q3 q4 _ (hRes P hP1 hP2) _ _ _ _ _ _ _ _ _ _ _ _ _ _ _ _ _ _ _ _ _ _ _ _ _ _ _ _ _ _ _ _ _ _ _ _ _ _ _ _ _ _ _ _ _ _ _ _ _ _ _ _ _ _ _ _ _ _ _ _ _ _ _ _ _ _ _ _ _ _ _ _ _ _ _ _ _ _ _ _ _ _ _ _ _ _ _ _ _ _ _ _ _ _ _ _ _ _ _ _ _ _ _ _ _ _ _ _ _ _ _ _ _ _ _ _ _ _ _ _ _ _ _ _ _ _ _ _ _ _ _ _ _ _ _ _ _ _ _ _ _ _ _ _ _ _ _ _ _ _ _ _ _ _ _ _ _ _ _ _ _ _ _ _ _ _ _ _ _ _ _ _ _ _ _ _ _ _ _ _ _ _ _ _ _ _ _)
end Go.Proofs.YbulkcemcGreat
