/-
  bound, up to the times (seat b4030aZD).
-/
import Derived.Test.YbulkcelaGreatDoorBndR
namespace Go.Proofs.YbulkcelaGreatDoor
open Go.RowKit Go.MapKept Go.Lib Go.Shelf Go.Maps Go.Sort

noncomputable def bndC : Code := (Ybaz.f37.body.bind (fromR 20)).getD .skip

theorem Ybaz.info49 : (Ybaz.prog.info? 49).map (fun i => (i.zero, i.size, i.bytes)) = some (some (.map none), 1, 8) := by kernel_rfl

theorem make56 (w : World) (n : Nat) (hn : n ≤ 1000) : ∃ zc : Array Value, zc.size = n ∧ (Instr.makeSlice 56 (.int .i64 n) (.int .i64 n)).run Ybaz.prog w = .ok (.slice (some ⟨w.heap.size, 0, none⟩) n n) (w.alloc (.cells zc 49)) := by
  obtain ⟨i0, hi, hz0, hz1, hz2⟩ := info_parts Ybaz.info49
  have hmk := run_make (P := Ybaz.prog) w 56 49 i0 _ Ybaz.underlying56 hi hz0 .i64 .i64 n n (by omega) (Int.le_refl _) (by rw [hz2]; omega) (by omega)
  rw [hz1, Nat.mul_one] at hmk
  simp only [Int.toNat_natCast] at hmk
  exact ⟨_, size_madeCells _ _, hmk⟩

theorem make120 (w : World) (n : Nat) (hn : n ≤ 1000) : (Instr.makeSlice 120 (.int .i64 n) (.int .i64 n)).run Ybaz.prog w = .ok (.slice (some ⟨w.heap.size, 0, none⟩) n n) (w.alloc (.cells ((List.range n).map fun _ => Value.slice none 0 0).toArray 44)) := by
  obtain ⟨i0, hi, hz0, hz1, hz2⟩ := info_parts Ybaz.info44
  have hmk := run_make (P := Ybaz.prog) w 120 44 i0 _ Ybaz.underlying120 hi hz0 .i64 .i64 n n (by omega) (Int.le_refl _) (by rw [hz2]; omega) (by omega)
  rw [hz1, Nat.mul_one] at hmk
  simp only [Int.toNat_natCast] at hmk
  rw [hmk]
  have e : madeCells (Value.slice none 0 0).cells n = ((List.range n).map fun _ => Value.slice none 0 0).toArray := by
    refine Array.ext_getElem? fun i => ?_
    by_cases hi : i < n
    · simp [madeCells, Value.cells, hi, Nat.mod_one]
    · simp [madeCells, hi]
  rw [e]

theorem VisAt.isMap {w : World} {ib : Nat} {v : Value} {k : Int} (h : VisAt w ib v k) : ∃ mp, v = .map mp := by
  rcases h with ⟨_, e | ⟨r, e, _⟩⟩ | ⟨m, _, _, r, e, _⟩ <;> exact ⟨_, e⟩

theorem flat2_get (f : Nat → List Value) (hf : ∀ k, (f k).length = 2) (c : Nat) (hc : c < 2) : ∀ (n k : Nat), k < n → ((List.range n).flatMap f)[k * 2 + c]? = (f k)[c]?
  | 0, k, h => absurd h (Nat.not_lt_zero _)
  | n + 1, k, h => by
    rw [List.range_succ, List.flatMap_append]
    have hl : ((List.range n).flatMap f).length = n * 2 := by
      clear h
      induction n with
      | zero => rfl
      | succ n ih => rw [List.range_succ, List.flatMap_append, List.length_append, ih]; simp [hf]; omega
    by_cases e : k = n
    · subst e
      rw [List.getElem?_append_right (by omega), hl]
      simp [show k * 2 + c - k * 2 = c by omega]
    · rw [List.getElem?_append_left (by omega)]
      exact flat2_get f hf c hc n k (by omega)

set_option linter.unusedSimpArgs false in
set_option maxRecDepth 100000 in
set_option maxHeartbeats 1000000 in
theorem bnd_AB (b0 len N B kb kc : Nat) (V : Nat → Nat) (S E : Nat → Int) (ki : Ents) (ks : List Int) (vs : Nat → Value) (nv fv keyv : Value) (w : World) (hKs : Ks w b0 len N V ki ks vs nv fv (.slice (some ⟨kb, 0, none⟩) ks.length kc) keyv) (hK0 : 0 < ks.length) (hK : ks.length ≤ 300) (hnd : ks.Nodup) (hr : ∀ x ∈ ks, -1 ≤ x ∧ x ≤ 2) (hlen : len ≤ 300) (hN : N < B) (hB : B ≤ w.heap.size) (hC : ∀ i, i < len → Con w N B V S E i)
    (R : Ending → World → Prop) (hrest : ∀ (fw : Value) (fl : Nat → Value) (wr : World), BSt w ks vs V len fw fl wr → ∀ (c1 c3 c4 c6 c7 c8 c9 c10 c11 c12 c13 c14 c15 c16 c17 c18 c19 c20 c21 c22 c23 c24 c25 c26 c27 c28 c29 c30 c31 c32 c33 c34 c35 c36 c37 c38 c39 c40 c41 c42 c43 c44 c45 c46 c47 c48 c49 c50 c51 c52 c53 c54 c55 c56 c57 c58 c59 c60 c61 c62 c63 c64 c65 c66 c67 c68 c69 c70 c71 c72 c73 c74 c75 c76 c77 c78 c79 c80 c81 c82 c83 c84 c85 c86 c87 c88 c89 c90 c91 c92 c93 c94 c95 c96 c97 c98 c99 c100 c101 c102 c103 c104 c105 c106 c107 c108 c109 c110 c111 c112 c113 c114 c115 c116 c117 c118 c119 c120 c121 c122 c123 c124 c125 c126 c127 c128 c129 c130 c131 c132 c133 c134 c135 c136 c137 c138 c139 c140 c141 c142 c143 : Value), bndC.wp Ybaz.prog (bodyPost Ybaz.prog Ybaz.f37 R) ⟨#[.pointer (some ⟨b0 + 2, 0, none⟩), c1, .slice (some ⟨kb, 0, none⟩) ks.length kc, c3, c4, .slice (some ⟨w.heap.size + 1, 0, none⟩) ks.length ks.length, c6, c7, c8, c9, c10, c11, c12, c13, c14, c15, c16, c17, c18, c19, c20, c21, c22, c23, c24, c25, c26, c27, c28, c29, c30, c31, c32, c33, c34, c35, c36, c37, c38, c39, c40, c41, c42, c43, c44, c45, c46, c47, c48, c49, c50, c51, c52, c53, c54, c55, c56, c57, c58, c59, c60, c61, c62, c63, c64, c65, c66, c67, c68, c69, c70, c71, c72, c73, c74, c75, c76, c77, c78, c79, c80, c81, c82, c83, c84, c85, c86, c87, c88, c89, c90, c91, c92, c93, c94, c95, c96, c97, c98, c99, c100, c101, c102, c103, c104, c105, c106, c107, c108, c109, c110, c111, c112, c113, c114, c115, c116, c117, c118, c119, c120, c121, c122, c123, c124, c125, c126, c127, c128, c129, c130, c131, c132, c133, c134, c135, c136, c137, c138, c139, c140, c141, c142, c143], []⟩ wr) :
    Calls Ybaz.prog 37 #[.pointer (some ⟨b0 + 2, 0, none⟩)] w R := by
  have mixed : Ybaz.prog.follows .mixedOrders = true := by kernel_rfl
  have hAR : Aside (∀ (fw : Value) (fl : Nat → Value) (wr : World), BSt w ks vs V len fw fl wr → ∀ (c1 c3 c4 c6 c7 c8 c9 c10 c11 c12 c13 c14 c15 c16 c17 c18 c19 c20 c21 c22 c23 c24 c25 c26 c27 c28 c29 c30 c31 c32 c33 c34 c35 c36 c37 c38 c39 c40 c41 c42 c43 c44 c45 c46 c47 c48 c49 c50 c51 c52 c53 c54 c55 c56 c57 c58 c59 c60 c61 c62 c63 c64 c65 c66 c67 c68 c69 c70 c71 c72 c73 c74 c75 c76 c77 c78 c79 c80 c81 c82 c83 c84 c85 c86 c87 c88 c89 c90 c91 c92 c93 c94 c95 c96 c97 c98 c99 c100 c101 c102 c103 c104 c105 c106 c107 c108 c109 c110 c111 c112 c113 c114 c115 c116 c117 c118 c119 c120 c121 c122 c123 c124 c125 c126 c127 c128 c129 c130 c131 c132 c133 c134 c135 c136 c137 c138 c139 c140 c141 c142 c143 : Value), bndC.wp Ybaz.prog (bodyPost Ybaz.prog Ybaz.f37 R) ⟨#[.pointer (some ⟨b0 + 2, 0, none⟩), c1, .slice (some ⟨kb, 0, none⟩) ks.length kc, c3, c4, .slice (some ⟨w.heap.size + 1, 0, none⟩) ks.length ks.length, c6, c7, c8, c9, c10, c11, c12, c13, c14, c15, c16, c17, c18, c19, c20, c21, c22, c23, c24, c25, c26, c27, c28, c29, c30, c31, c32, c33, c34, c35, c36, c37, c38, c39, c40, c41, c42, c43, c44, c45, c46, c47, c48, c49, c50, c51, c52, c53, c54, c55, c56, c57, c58, c59, c60, c61, c62, c63, c64, c65, c66, c67, c68, c69, c70, c71, c72, c73, c74, c75, c76, c77, c78, c79, c80, c81, c82, c83, c84, c85, c86, c87, c88, c89, c90, c91, c92, c93, c94, c95, c96, c97, c98, c99, c100, c101, c102, c103, c104, c105, c106, c107, c108, c109, c110, c111, c112, c113, c114, c115, c116, c117, c118, c119, c120, c121, c122, c123, c124, c125, c126, c127, c128, c129, c130, c131, c132, c133, c134, c135, c136, c137, c138, c139, c140, c141, c142, c143], []⟩ wr) := hrest
  have hA : Aside (Ks w b0 len N V ki ks vs nv fv (.slice (some ⟨kb, 0, none⟩) ks.length kc) keyv ∧ ks.Nodup ∧ (∀ x ∈ ks, -1 ≤ x ∧ x ≤ 2) ∧ ∀ i, i < len → Con w N B V S E i) := ⟨hKs, hnd, hr, hC⟩
  have b4 : w.cell? ⟨b0 + 2, 4, none⟩ = some (.slice (some ⟨kb, 0, none⟩) ks.length kc) := Joins.cell_of_block hKs.box 4
  have b5 : w.cell? ⟨b0 + 2, 5, none⟩ = some (.int .i64 0) := Joins.cell_of_block hKs.box 5
  have hkc : ks.length ≤ kc := by
    obtain ⟨_, ⟨e, _⟩ | ⟨g, cp, cur, e, _, _, h4, _⟩⟩ := hKs.kinds
    · cases e
    · cases e; exact h4
  clear hrest hKs hnd hr hC
  have hk0 : ¬ kc = 0 := by omega
  have hKi : (ks.length : Int) ≤ (kc : Int) := by omega
  go_enter Ybaz.func37, Ybaz.ntmps37
  go_wp2_with fail
  go_quiet (fail)
  rename_i nq
  obtain ⟨zc, hzs, hmk⟩ := make56 (w.drewN nq) ks.length (by omega)
  obtain ⟨w1, hw1⟩ : ∃ w1, (w.drewN nq).alloc (.cells zc 49) = w1 := ⟨_, rfl⟩
  rw [hw1] at hmk
  have hs1 : w1.heap.size = w.heap.size + 1 := by rw [← hw1]; simp
  have hmk' : (Instr.makeSlice 56 (.int .i64 ks.length) (.int .i64 ks.length)).run Ybaz.prog (w.drewN nq) = .ok (.slice (some ⟨w.heap.size, 0, none⟩) ks.length ks.length) w1 := hmk
  clear hmk
  go_wp2
  have hL1 : Below w.heap.size w w1 ∧ w1.heap[w.heap.size]? = some (.cells zc 49 (0, 0)) := by
    rw [← hw1]
    exact ⟨(below_drewN _ w nq).alloc (Nat.le_refl _) _, by rw [alloc_at, if_pos (show w.heap.size = (w.drewN nq).heap.size from rfl)]⟩
  have hA1 : Aside (Below w.heap.size w w1 ∧ w1.heap[w.heap.size]? = some (.cells zc 49 (0, 0)) ∧ w1.heap.size = w.heap.size + 1) := ⟨hL1.1, hL1.2, hs1⟩
  clear hL1 hw1 hmk' hs1
  rename_i K1 hK1
  have hK1' : Aside (∀ (a : Act) (w : World), _ → K1 a w) := hK1
  clear hK1
  go_loopg [30] (ks.length + 1) (fun q v30 wr => ∃ (j : Nat) (cur : Array Value), v30 = .int .i64 j ∧ j ≤ ks.length ∧ ks.length - j < q ∧ Below w.heap.size w wr ∧ wr.heap.size = w.heap.size + 1 ∧ wr.heap[w.heap.size]? = some (.cells cur 49 (0, 0)) ∧ cur.size = ks.length ∧ ∀ i, i < j → cur[i]? = some (vs i))
  case atStart => exact ⟨0, zc, rfl, Nat.zero_le _, by omega, hA1.out.1, hA1.out.2.2, hA1.out.2.1, hzs, fun i hi => absurd hi (Nat.not_lt_zero _)⟩
  case round =>
    obtain ⟨j, cur, rfl, hjK, hq, hbel, hsz, hcb, hcs, hcv⟩ := hrel
    by_cases hlt : j < ks.length
    · obtain ⟨hKs, _, _, _⟩ := hA.out
      have hjk : ks[j]? = some ks[j] := List.getElem?_eq_getElem hlt
      obtain ⟨mp, hmp⟩ := (hKs.vis j _ hjk).isMap
      have hKs' := hKs.kinds
      have hvc : wr.cell? ⟨kb, j * 2, none⟩ = some (.map mp) := by
        obtain ⟨_, ⟨e, _⟩ | ⟨g, cp, cu, e, _, h3, h4, _, h6, h7⟩⟩ := hKs'
        · cases e
        · cases e
          rw [← hmp]
          have hkl : kb < w.heap.size := (Array.getElem?_eq_some_iff.1 h3).1
          rw [hbel.cell (p := ⟨kb, j * 2, none⟩) hkl, Joins.cell_of_block h3]
          have := flat2_get (fun j => [vs j, .slice none 0 0]) (fun _ => rfl) 0 (by omega) ks.length j hlt
          rw [← h7, List.getElem?_take, if_pos (by omega)] at this
          simpa using this
      have hlt' : (j : Int) < (ks.length : Int) := by omega
      have c1 : wr.cell? ⟨w.heap.size, j, none⟩ = some cur[j] := (Joins.cell_of_block hcb j).trans (by simp [hcs, hlt])
      have f1 : wr.frozen? ⟨w.heap.size, j, none⟩ = false := Joins.unfrozen_of_block hcb j
      have hA2 : Aside (Below w.heap.size w wr ∧ wr.heap.size = w.heap.size + 1 ∧ wr.heap[w.heap.size]? = some (.cells cur 49 (0, 0)) ∧ ∀ i, i < j → cur[i]? = some (vs i)) := ⟨hbel, hsz, hcb, hcv⟩
      clear hbel hsz hcb hcv hKs hKs'
      go_wp2
      go_roundg (ks.length - j)
      case measure => omega
      case rel =>
        refine ⟨j + 1, cur.setIfInBounds j (.map mp), by go_num, by omega, by omega, hA2.out.1.setCell (p := ⟨w.heap.size, j, none⟩) (Nat.le_refl _) _, by simp [World.setCell]; exact hA2.out.2.1, Joins.block_setCell (i := j) hA2.out.2.2.1 _, by simpa using hcs, fun i hi => ?_⟩
        rw [Array.getElem?_setIfInBounds]
        by_cases e : j = i
        · subst e; rw [if_pos rfl, if_pos (by omega), hmp]
        · rw [if_neg e]; exact hA2.out.2.2.2 i (by omega)
    · obtain rfl : j = ks.length := by omega
      obtain ⟨hKs, hnd, hr, hC⟩ := hA.out
      have hm120 := make120 wr ks.length (by omega)
      have hni := fun W => newIndex55 (some ⟨w.heap.size, 0, none⟩) ks.length ks.length W
      rw [hsz] at hm120
      obtain ⟨fp, fc, hfv⟩ := own_form hKs.flown
      have e2 : (wr.alloc (.cells ((List.range ks.length).map fun _ => Value.slice none 0 0).toArray 44)).heap.size = w.heap.size + 1 + 1 := by simp [hsz]
      have hni' := hni (wr.alloc (.cells ((List.range ks.length).map fun _ => Value.slice none 0 0).toArray 44))
      rw [e2] at hni'
      obtain ⟨w4, hw4⟩ : ∃ w4, ((wr.alloc (.cells ((List.range ks.length).map fun _ => Value.slice none 0 0).toArray 44)).alloc (.map #[] 0)).alloc (.cells #[.slice (some ⟨w.heap.size, 0, none⟩) ks.length ks.length, .int .i32 0, .int .u32 0, .map (some (w.heap.size + 1 + 1))] 148) = w4 := ⟨_, rfl⟩
      rw [hw4] at hni'
      have e3 : ((wr.alloc (.cells ((List.range ks.length).map fun _ => Value.slice none 0 0).toArray 44)).alloc (.map #[] 0)).heap.size = w.heap.size + 1 + 1 + 1 := by simp [hsz]
      have hB4 : BSt w ks vs V 0 (.slice none 0 0) (fun _ => .slice none 0 0) w4 := by
        rw [← hw4]
        refine ⟨((hbel.alloc (by omega) _).alloc (by omega) _).alloc (by omega) _, ⟨cur, ?_, fun j hj => hcv j hj⟩, ?_, ?_, .inl ⟨rfl, ?_, rfl, fun _ _ => rfl⟩⟩
        · rw [alloc_at, if_neg (by omega), alloc_at, if_neg (by omega), alloc_at, if_neg (by omega)]; exact hcb
        · rw [alloc_at, if_pos (by omega)]
        · rw [alloc_at, if_neg (by omega), alloc_at, if_neg (by omega), alloc_at, if_pos (by omega)]
        · have hm := MapL.made (wr.alloc (.cells ((List.range ks.length).map fun _ => Value.slice none 0 0).toArray 44))
          rw [e2] at hm
          refine hm.block ?_
          rw [alloc_at, if_neg (by omega)]
      have b42 : w4.cell? ⟨b0 + 2, 2, none⟩ = some (.slice fp len fc) := by
        rw [hB4.below.cell (p := ⟨b0 + 2, 2, none⟩) hKs.lo, Joins.cell_of_block hKs.box]
        rw [hfv]; rfl
      have hAB : Aside (BSt w ks vs V 0 (.slice none 0 0) (fun _ => .slice none 0 0) w4) := hB4
      clear hB4 hKs hnd hr hC hbel hsz hcb hcv hw4 e3 e2 hni
      go_wp2
      refine hK1'.out _ _ ?_
      clear hK1'
      go_wp2_with (go_at_call 55; refine hni'.mono ?_; rintro e w5 ⟨rfl, hw5⟩; obtain rfl := hw5.symm)
      clear hm120 hni' b42
      rename_i K2 hK2
      have hK2' : Aside (∀ (a : Act) (w : World), _ → K2 a w) := hK2
      clear hK2
      go_loopg [52, 7] (len + 1) (fun q v52 v7 wx => ∃ (c : Nat) (fw : Value) (fl : Nat → Value), v52 = .int .i64 c ∧ v7 = fw ∧ c ≤ len ∧ len - c < q ∧ BSt w ks vs V c fw fl wx)
      case atStart => exact ⟨0, _, _, rfl, rfl, Nat.zero_le _, by omega, hAB.out⟩
      case round =>
        obtain ⟨c, fw, fl, rfl, hv7, hcl, hq2, hB⟩ := hrel
        obtain rfl := hv7.symm
        clear hv7
        by_cases hlt2 : c < len
        · obtain ⟨hKs, hnd, hr, hC⟩ := hA.out
          obtain ⟨fg, fc', hfe⟩ := Joins.ownsRow_form hKs.flown (by omega)
          rw [hfv] at hfe
          cases hfe
          have hfcell : wr.cell? ⟨fg, c, none⟩ = some (.pointer (some ⟨N, c * 9, none⟩)) := by
            have h1 := hKs.flown
            rw [hfv] at h1
            obtain ⟨_, h2, h3⟩ := owns_cell h1 (j := c) (u := cptr N c) (by simp [hlt2])
            exact (hB.below.cell (p := ⟨fg, c, none⟩) h2).trans h3
          obtain ⟨tb, sb, htb, hsb, hm2, hMt, hsv⟩ := (hC c hlt2).tgt
          have hform : ∃ p n cap, fw = .slice p n cap ∧ ((p = none ∧ n = 0 ∧ cap = 0) ∨ ∃ g, p = some ⟨g, 0, none⟩) := by
            rcases hB.st with ⟨_, _, e, _⟩ | ⟨_, _, _, g⟩
            · exact ⟨none, 0, 0, e, .inl ⟨rfl, rfl, rfl⟩⟩
            · obtain ⟨n, xs, hfr⟩ := g.found
              rcases hfr.2 with ⟨e1, e2⟩ | ⟨g', cp, cu, e1, _⟩
              · exact ⟨none, 0, 0, e1, .inl ⟨rfl, rfl, rfl⟩⟩
              · exact ⟨_, _, _, e1, .inr ⟨g', rfl⟩⟩
          obtain ⟨p, n, cap, rfl, hpf⟩ := hform
          have hmat := match_b (hB.drewN 1) (b0 + 1) tb sb hK hnd hr hKs.vis (hC c hlt2).v3 (by omega) (by omega) hMt hsv
          have hmd : ∀ w' : World, Below w.heap.size w w' → w'.cell? ⟨N, c * 9 + 2, none⟩ = some (.map (some tb)) := fun w' hb => (hb.cell (p := ⟨N, c * 9 + 2, none⟩) (by show N < _; omega)).trans hm2
          have hm2' := hmd wr.drew hB.below.drew
          have hlt2' : (c : Int) < (len : Int) := by omega
          clear hKs hr hC hB hMt hsv hm2
          go_wp2
          refine bnd_r13 (w.heap.size + 1 + 1 + 1) N (c * 9) tb n cap p hpf wr hm2' (fun v w' => ∃ js : List Nat, js.length ≤ 1 ∧ (∀ j : Nat, j ∈ js ↔ ks[j]? = some (V c : Int)) ∧ BSt w ks vs V c v fl w' ∧ (∃ cb lo hi, BCol w ks V c v fl w' cb lo hi) ∧ w'.ownsRow (w.heap.size + 4) 3 1 v js.length (ints js)) (hmat.mono ?_) (fun v w' hP => ?_) _ _ _ _ _ _ _ _ _ _ _ _ _ _ _ _ _ _ _ _ _ _ _ _ _ _ _ _ _ _ _ _ _ _ _ _ _ _ _ _ _ _ _ _ _ _ _ _ _ _ _ _ _ _ _ _ _ _ _ _ _ _ _ _ _ _ _ _ _ _ _ _ _ _ _ _ _ _ _ _ _ _ _ _ _ _ _ _ _ _ _ _ _ _ _ _ _ _ _ _ _ _ _ _ _ _ _ _ _ _ _ _ _ _ _ _ _ _ _ _ _ _ _ _ _ _ _ _ _ _ _ _ _ _ _ _ _ _ _ _ _ _ _ (fun v w' e57 e58 e59 e60 e61 e62 e63 e64 hP => ?_)
          · rintro e w' ⟨v, js, rfl, h1, h2, h3, h4, h5⟩
            exact ⟨v, rfl, js, h1, h2, h3, h4, h5⟩
          · obtain ⟨js, h1, h2, h3, h4, h5⟩ := hP
            exact hmd w' h3.below
          · clear hmat hmd hm2' hfcell
            obtain ⟨js, hjs1, hjs2, hB', ⟨cb, lo, hi, hBC⟩, hown⟩ := hP
            have hAB2 : Aside (BSt w ks vs V c v fl w' ∧ BCol w ks V c v fl w' cb lo hi ∧ (∀ j : Nat, j ∈ js ↔ ks[j]? = some (V c : Int)) ∧ ks.Nodup) := ⟨hB', hBC, hjs2, hnd⟩
            rcases js with _ | ⟨j, _ | ⟨j2, js'⟩⟩
            · obtain ⟨vp, vcap, rfl⟩ := own_form hown
              clear hB' hBC hjs2 hnd hown
              go_wp2
              refine wp_loop_rounds 1 ?_
              rw [rounds_succ]
              go_wp2
              go_roundg (len - c)
              case measure => omega
              case rel => exact ⟨c + 1, _, fl, by go_num, rfl, by omega, by omega, hAB2.out.1.skip hAB2.out.2.1 (fun j hj => by have := (hAB2.out.2.2.1 j).2 hj; cases this)⟩
            · have hjk : ks[j]? = some (V c : Int) := (hjs2 j).1 (by simp)
              have hjl := (List.getElem?_eq_some_iff.1 hjk).1
              obtain ⟨vg, vcap, rfl⟩ := Joins.ownsRow_form hown (by simp)
              obtain ⟨_, _, hvc⟩ := owns_cell hown (j := 0) (u := .int .i64 (j : Nat)) rfl
              have hrowj := hBC.rows j _ hjk
              obtain ⟨jp, jc, hfj⟩ := own_form hrowj
              have hfc : w'.cell? ⟨w.heap.size + 1, j, none⟩ = some (fl j) := (Joins.cell_of_block hB'.flb j).trans (by simp [hjl])
              obtain ⟨i0, hi0, hz0, hz1, hz2⟩ := info_parts Ybaz.info3
              have hfle := flK_le V c (V c : Int)
              have hhw := hBC.hiw
              obtain ⟨g2, c2, w4', hap, hown4, hgr, hlie, hlt4⟩ := run_append_lies (P := Ybaz.prog) (w'.alloc (.cells #[.int .i64 (c : Nat)] 3)) 44 44 hi 3 i0 (.int .i64 0) 1 8 Ybaz.underlying44 hi0 hz0 hz1 hz2 rfl (by decide) (fl j) (flK V c (V c)).length (ints (flK V c (V c))) (hrowj.alloc _) ⟨w'.heap.size, 0, none⟩ 1 1 [.int .i64 (c : Nat)] rfl (cell_one_new _ _ _) (by intro u hu; simp at hu; subst hu; rfl) (by decide) (by unfold maxLen; omega) (by omega) (by simp; omega) (w'.heap.size + 1) (by simp)
              obtain ⟨hp1, hp2, hp3⟩ := hB'.push hBC hnd hjk hgr hown4 hlie
              have hAP : Aside (BSt w ks vs V (c + 1) (.slice (some ⟨vg, 0, none⟩) 1 vcap) (fun i => if i = j then .slice (some ⟨g2, 0, none⟩) ((flK V c (V c)).length + 1) c2 else fl i) (w4'.setCell ⟨w.heap.size + 1, j, none⟩ (.slice (some ⟨g2, 0, none⟩) ((flK V c (V c)).length + 1) c2))) := hp3
              rw [hfj] at hap hfc hp1
              clear hB' hBC hjs2 hnd hown hrowj hown4 hgr hlie hlt4 hp3 hi0 hz0 hz1 hz2 hhw hjk
              have hjl' : (j : Int) < (ks.length : Int) := by omega
              have hjl2 : j < ks.length := hjl
              generalize (flK V c (V c)).length = L at *
              go_wp2
              refine wp_loop_rounds 2 ?_
              rw [rounds_succ]
              go_wp2_with (at_builtin; refine wpList_append_run rfl (.tmp 76) (.tmp 78) 44 rfl _ _ rfl rfl hap ?_)
              rw [rounds_succ]
              go_wp2
              go_roundg (len - c)
              case measure => omega
              case rel => exact ⟨c + 1, _, _, by go_num, rfl, by omega, by omega, hAP.out⟩
            · simp at hjs1
        · obtain rfl : c = len := by omega
          have hAB2 : Aside (BSt w ks vs V c fw fl wr) := hB
          clear hB
          go_wp2
          refine hK2'.out _ _ ?_
          exact hAR.out fw fl wr hAB2.out _ _ _ _ _ _ _ _ _ _ _ _ _ _ _ _ _ _ _ _ _ _ _ _ _ _ _ _ _ _ _ _ _ _ _ _ _ _ _ _ _ _ _ _ _ _ _ _ _ _ _ _ _ _ _ _ _ _ _ _ _ _ _ _ _ _ _ _ _ _ _ _ _ _ _ _ _ _ _ _ _ _ _ _ _ _ _ _ _ _ _ _ _ _ _ _ _ _ _ _ _ _ _ _ _ _ _ _ _ _ _ _ _ _ _ _ _ _ _ _ _ _ _ _ _ _ _ _ _ _ _ _ _ _ _ _ _ _ _ _ _
end Go.Proofs.YbulkcelaGreatDoor
