/-
  Supply: one kind (seat b4030aZD).
-/
import Derived.Test.YbulkcelaGreatDoorSupD
namespace Go.Proofs.YbulkcelaGreatDoor
open Go.RowKit Go.MapKept Go.Lib Go.Shelf Go.Maps Go.Sort

theorem cell_lays' {w w' : World} {b o : Nat} {v : Value} (hl : Lays w w') (h : w.cell? ⟨b, o, none⟩ = some v) : w'.cell? ⟨b, o, none⟩ = some v := by
  refine (hl.below.cell (p := ⟨b, o, none⟩) ?_).trans h
  unfold World.cell? at h
  by_cases hb : b < w.heap.size
  · exact hb
  · have : w.heap[b]? = none := Array.getElem?_eq_none (by omega)
    simp [this] at h

theorem cut_push {w W w5 : World} {b0 kb kc K len g cap H : Nat} {V : Nat → Nat} {S E : Nat → Int} {ks : List Int} {vs bv : Nat → Value} {nv fv keyv cutv pv : Value} {x y b : Int} {kcur : Array Value} {CL : List Int} {PL : List (Nat × Nat × Int)} {o : Obj} (hS : SC w b0 kb K x y cutv pv kcur CL PL W) (hB : Bd w b0 kb kc len V S E ks vs bv nv fv keyv cutv W) (hkb : kb < w.heap.size) (hb0 : b0 + 2 < w.heap.size)
    (hown : w5.ownsRow (w.heap.size + 5) 29 3 (.slice (some ⟨g, 0, none⟩) (CL.length + 1) cap) (CL.length + 1) (CL.flatMap encT ++ [.int .u64 0, .int .i64 b, .pointer none])) (hg : (W.alloc o).grownBy w5 cutv.ownBlock) (hat : cutv.ownBlock = some g ∨ g = H) (hH : W.heap.size ≤ H) :
    SC w b0 kb K x y (.slice (some ⟨g, 0, none⟩) (CL.length + 1) cap) pv kcur (CL ++ [b]) PL w5 ∧ Bd w b0 kb kc len V S E ks vs bv nv fv keyv (.slice (some ⟨g, 0, none⟩) (CL.length + 1) cap) w5 := by
  have hg' : W.grownBy w5 cutv.ownBlock := grown_trans (grown_alloc W o _) hg
  refine ⟨hS.cut' hg' ?_, hB.cut' hS.cut hkb hb0 hS.size hg' ?_⟩
  · rw [List.flatMap_append, List.length_append]
    exact hown
  · rcases hat with h | h
    · exact .inl h.symm
    · refine .inr fun g' e => ?_
      have e' : g = g' := by simpa [Value.ownBlock] using e
      omega

noncomputable def supB : Code := (Ybaz.f9.body.bind (fromIn 8)).getD .skip

set_option linter.unusedSimpArgs false in
set_option maxRecDepth 100000 in
set_option maxHeartbeats 2000000 in
theorem sup_B (fb b0 kb kc len i : Nat) (V : Nat → Nat) (S E : Nat → Int) (ks : List Int) (vs : Nat → Value) (nv fv keyv : Value) (x y sp d : Int) (kcur : Array Value) (PL : List (Nat × Nat × Int)) (w : World) (cv : Value) (k : Int) (hik : ks[i]? = some k) (hlen : len ≤ 300) (hST : ∀ j, j < len → (0 ≤ S j ∧ S j ≤ 1000000) ∧ (0 ≤ E j ∧ E j ≤ 1000000)) (hx : 0 ≤ x ∧ x ≤ 1000000) (hy : 0 ≤ y ∧ y ≤ 1000000) (hxy : x < y) (hkb : kb < w.heap.size) (hb0 : b0 + 2 < w.heap.size) (hPL : PL.length ≤ 1000000) (hsp0 : 0 < sp) (hsp1 : sp ≤ 1000000) (hd : d.natAbs < 9007199254740992) (hfb : w.heap[fb]? = some (.cells #[.pointer (some ⟨b0 + 2, 0, none⟩), cv, .float .f64 (fi sp)] 73 (0, 0))) (hfn : fb ≠ kb ∧ fb ≠ b0 + 2)
    (cg0 cap0 : Nat) (pv : Value) (wr : World) (hSC : SC w b0 kb ks.length x y (.slice (some ⟨cg0, 0, none⟩) 1 cap0) pv kcur [x] PL wr)
    (h23 : Calls Ybaz.prog 23 #[.pointer (some ⟨b0 + 2, 0, none⟩), .int .i64 (i : Nat)] wr fun e w' => ∃ bv, e = .returned (bv i) ∧ SC w b0 kb ks.length x y (.slice (some ⟨cg0, 0, none⟩) 1 cap0) pv kcur [x] PL w' ∧ Bd w b0 kb kc len V S E ks vs bv nv fv keyv (.slice (some ⟨cg0, 0, none⟩) 1 cap0) w')
    (df : List Deferred) (Q : Exit → Act → World → Prop) (c1 c2 c3 c11 c12 c13 c14 c15 c16 c17 c18 c19 c20 c21 c22 c23 c24 c25 c26 c27 c28 c29 c30 c31 c32 c33 c34 c35 c36 c37 c38 c39 c40 c41 c42 c43 c44 c45 c46 c47 c48 c49 c50 c51 c52 c53 c54 c55 c56 c57 c58 c59 c60 c61 c62 c63 c64 c65 c66 c67 c68 c69 c70 c71 c72 c73 c74 c75 c76 c77 c78 c79 c80 c81 c82 c83 c84 c85 c86 c87 c88 c89 c90 c91 c92 c93 c94 c95 c96 c97 c98 c99 c100 c101 c102 c103 c104 c105 c106 c107 c108 c109 c110 c111 c112 : Value) (hQ : ∀ (bv : Nat → Value) (cutv pv' : Value) (w' : World) (e12 e13 e14 e47 e48 e49 e50 e51 e52 e53 e54 e55 e56 e57 e58 e59 e60 e61 e62 e63 e64 e65 e66 e67 e68 e69 e70 e71 e72 e73 e74 e75 e76 e77 e78 e79 e80 e81 e82 e83 e84 e85 e86 e87 e88 e89 e90 e91 e92 e93 e94 e95 e96 e97 e98 e99 e100 e101 e102 e103 e104 e105 e106 e107 e108 e109 e110 : Value), SC w b0 kb ks.length x y cutv pv' kcur (csOf x y V S E len ks i) (PL ++ pieces i d sp (csOf x y V S E len ks i)) w' → Bd w b0 kb kc len V S E ks vs bv nv fv keyv cutv w' → Q .normal ⟨#[.pointer (some ⟨fb, 0, none⟩), c1, c2, c3, .pointer (some ⟨w.heap.size, 0, none⟩), .pointer (some ⟨w.heap.size + 1, 0, none⟩), .pointer (some ⟨w.heap.size + 2, 0, none⟩), .pointer (some ⟨w.heap.size + 4, 0, none⟩), cutv, .int .i64 (i : Nat), .float .f64 (fi d), c11, e12, e13, e14, c15, c16, c17, c18, c19, c20, c21, c22, c23, c24, c25, c26, c27, c28, c29, c30, c31, c32, c33, c34, c35, c36, c37, c38, c39, c40, c41, c42, c43, c44, c45, c46, e47, e48, e49, e50, e51, e52, e53, e54, e55, e56, e57, e58, e59, e60, e61, e62, e63, e64, e65, e66, e67, e68, e69, e70, e71, e72, e73, e74, e75, e76, e77, e78, e79, e80, e81, e82, e83, e84, e85, e86, e87, e88, e89, e90, e91, e92, e93, e94, e95, e96, e97, e98, e99, e100, e101, e102, e103, e104, e105, e106, e107, e108, e109, e110, c111, c112], df⟩ w') :
    supB.wp Ybaz.prog Q ⟨#[.pointer (some ⟨fb, 0, none⟩), c1, c2, c3, .pointer (some ⟨w.heap.size, 0, none⟩), .pointer (some ⟨w.heap.size + 1, 0, none⟩), .pointer (some ⟨w.heap.size + 2, 0, none⟩), .pointer (some ⟨w.heap.size + 4, 0, none⟩), .slice (some ⟨cg0, 0, none⟩) 1 cap0, .int .i64 (i : Nat), .float .f64 (fi d), c11, c12, c13, c14, c15, c16, c17, c18, c19, c20, c21, c22, c23, c24, c25, c26, c27, c28, c29, c30, c31, c32, c33, c34, c35, c36, c37, c38, c39, c40, c41, c42, c43, c44, c45, c46, c47, c48, c49, c50, c51, c52, c53, c54, c55, c56, c57, c58, c59, c60, c61, c62, c63, c64, c65, c66, c67, c68, c69, c70, c71, c72, c73, c74, c75, c76, c77, c78, c79, c80, c81, c82, c83, c84, c85, c86, c87, c88, c89, c90, c91, c92, c93, c94, c95, c96, c97, c98, c99, c100, c101, c102, c103, c104, c105, c106, c107, c108, c109, c110, c111, c112], df⟩ wr := by
  have hAQ : Aside (∀ (bv : Nat → Value) (cutv pv' : Value) (w' : World) (e12 e13 e14 e47 e48 e49 e50 e51 e52 e53 e54 e55 e56 e57 e58 e59 e60 e61 e62 e63 e64 e65 e66 e67 e68 e69 e70 e71 e72 e73 e74 e75 e76 e77 e78 e79 e80 e81 e82 e83 e84 e85 e86 e87 e88 e89 e90 e91 e92 e93 e94 e95 e96 e97 e98 e99 e100 e101 e102 e103 e104 e105 e106 e107 e108 e109 e110 : Value), SC w b0 kb ks.length x y cutv pv' kcur (csOf x y V S E len ks i) (PL ++ pieces i d sp (csOf x y V S E len ks i)) w' → Bd w b0 kb kc len V S E ks vs bv nv fv keyv cutv w' → Q .normal ⟨#[.pointer (some ⟨fb, 0, none⟩), c1, c2, c3, .pointer (some ⟨w.heap.size, 0, none⟩), .pointer (some ⟨w.heap.size + 1, 0, none⟩), .pointer (some ⟨w.heap.size + 2, 0, none⟩), .pointer (some ⟨w.heap.size + 4, 0, none⟩), cutv, .int .i64 (i : Nat), .float .f64 (fi d), c11, e12, e13, e14, c15, c16, c17, c18, c19, c20, c21, c22, c23, c24, c25, c26, c27, c28, c29, c30, c31, c32, c33, c34, c35, c36, c37, c38, c39, c40, c41, c42, c43, c44, c45, c46, e47, e48, e49, e50, e51, e52, e53, e54, e55, e56, e57, e58, e59, e60, e61, e62, e63, e64, e65, e66, e67, e68, e69, e70, e71, e72, e73, e74, e75, e76, e77, e78, e79, e80, e81, e82, e83, e84, e85, e86, e87, e88, e89, e90, e91, e92, e93, e94, e95, e96, e97, e98, e99, e100, e101, e102, e103, e104, e105, e106, e107, e108, e109, e110, c111, c112], df⟩ w') := hQ
  have hfl : fb < w.heap.size := (Array.getElem?_eq_some_iff.1 hfb).1
  have f0 : wr.cell? ⟨fb, 0, none⟩ = some (.pointer (some ⟨b0 + 2, 0, none⟩)) := Joins.cell_of_block ((hSC.low fb hfl hfn.1 hfn.2).trans hfb) 0
  have hAfb : Aside (w.heap[fb]? = some (.cells #[.pointer (some ⟨b0 + 2, 0, none⟩), cv, .float .f64 (fi sp)] 73 (0, 0))) := hfb
  obtain ⟨i0, hi0, hz0, hz1, hz2⟩ := info_parts Ybaz.info29
  have Hi : Aside (Ybaz.prog.info? 29 = some i0 ∧ i0.zero = some (tv 0) ∧ i0.size = 3 ∧ i0.bytes = 24) := ⟨hi0, hz0, hz1, hz2⟩
  clear hQ hSC hfb hi0 hz0 hz1 hz2
  conv => arg 2; whnf
  refine wp_seq_k fun K1 hK1 => ?_
  have hK1' : Aside (∀ (a : Act) (w : World), _ → K1 a w) := hK1
  clear hK1
  go_wp2_with (go_at_call 23; refine h23.mono ?_; rintro e w1 ⟨bv, rfl, hS1, hB1⟩; refine Veil.off ?_)
  unfold Veil
  clear h23 f0
  obtain ⟨L, hL⟩ : ∃ L, (bdK V S E len k).length = L := ⟨_, rfl⟩
  have hLl : L ≤ 600 := by have := bdK_le V S E len k; omega
  have hbnd := hB1.bnd i k hik
  obtain ⟨bp, bc, hbv⟩ := own_form hbnd
  rw [hL] at hbv
  have hA1 : Aside (SC w b0 kb ks.length x y (.slice (some ⟨cg0, 0, none⟩) 1 cap0) pv kcur [x] PL w1 ∧ Bd w b0 kb kc len V S E ks vs bv nv fv keyv (.slice (some ⟨cg0, 0, none⟩) 1 cap0) w1) := ⟨hS1, hB1⟩
  clear hS1 hB1 hbnd
  rw [hbv]
  go_wp2
  go_loopg [54, 8] (L + 1) (fun q v54 v8 wx => ∃ (r : Nat) (cutv : Value), v54 = .int .i64 r ∧ v8 = cutv ∧ r ≤ L ∧ L - r < q ∧ SC w b0 kb ks.length x y cutv pv kcur (x :: ((bdK V S E len k).take r).filter fun b => decide (x < b) && decide (b < y)) PL wx ∧ Bd w b0 kb kc len V S E ks vs bv nv fv keyv cutv wx)
  case atStart => exact ⟨0, _, rfl, rfl, Nat.zero_le _, by omega, by simpa using hA1.out.1, hA1.out.2⟩
  case round =>
    obtain ⟨r, cutv, rfl, hv8, hrL, hq, hS, hB⟩ := hrel
    obtain rfl := hv8.symm
    clear hv8
    by_cases hlt : r < L
    · have hbnd := hB.bnd i k hik
      rw [hbv] at hbnd
      have hbp : ∃ bg, bp = some ⟨bg, 0, none⟩ := by
        obtain ⟨g, c, e⟩ := Joins.ownsRow_form hbnd (by omega)
        injection e with e1 _ _
        exact ⟨g, e1⟩
      obtain ⟨bg, rfl⟩ := hbp
      rw [← hL] at hbnd
      obtain ⟨hbg, t0, t1, t2⟩ := row_time hbnd (k := r) (by omega)
      obtain ⟨b, hb⟩ : ∃ b, (bdK V S E len k).getD r 0 = b := ⟨_, rfl⟩
      rw [hb] at t1
      have hnx : (bdK V S E len k).take (r + 1) = (bdK V S E len k).take r ++ [b] := take_next (by rw [← hb]; simp [List.getD, show r < (bdK V S E len k).length by omega])
      have hsz := hS.size
      have g0 : wr.cell? ⟨w.heap.size, 0, none⟩ = some (.int .u64 0) := Joins.cell_of_block hS.frm 0
      have g1 : wr.cell? ⟨w.heap.size, 1, none⟩ = some (.int .i64 x) := Joins.cell_of_block hS.frm 1
      have g2 : wr.cell? ⟨w.heap.size, 2, none⟩ = some (.pointer none) := Joins.cell_of_block hS.frm 2
      have u0 : wr.cell? ⟨w.heap.size + 1, 0, none⟩ = some (.int .u64 0) := Joins.cell_of_block hS.til 0
      have u1 : wr.cell? ⟨w.heap.size + 1, 1, none⟩ = some (.int .i64 y) := Joins.cell_of_block hS.til 1
      have u2 : wr.cell? ⟨w.heap.size + 1, 2, none⟩ = some (.pointer none) := Joins.cell_of_block hS.til 2
      have hA2 : Aside (SC w b0 kb ks.length x y cutv pv kcur (x :: ((bdK V S E len k).take r).filter fun b => decide (x < b) && decide (b < y)) PL wr ∧ Bd w b0 kb kc len V S E ks vs bv nv fv keyv cutv wr ∧ (bdK V S E len k).take (r + 1) = (bdK V S E len k).take r ++ [b]) := ⟨hS, hB, hnx⟩
      have hlt' : (r : Int) < (L : Int) := by omega
      have hl0 : w.heap.size < wr.heap.size := by omega
      have hl1 : w.heap.size + 1 < wr.heap.size := by omega
      clear hS hB hnx hbnd hb
      go_wp2_with (go_at_call 24; refine Veil.off ?_)
      unfold Veil
      refine (after24 b x _).mono ?_
      rintro e w3 ⟨rfl, hl3⟩
      have hb3 : Below wr.heap.size wr w3 := ((Below.refl _ _).alloc (Nat.le_refl _) _).trans (hl3.below.mono (by simp))
      have nb : w3.heap[wr.heap.size]? = some (.cells #[.int .u64 0, .int .i64 b, .pointer none] 29 (0, 0)) := (hl3.below.block _ (by simp)).trans (by rw [alloc_at, if_pos rfl])
      have n0 : w3.cell? ⟨wr.heap.size, 0, none⟩ = some (.int .u64 0) := Joins.cell_of_block nb 0
      have n1 : w3.cell? ⟨wr.heap.size, 1, none⟩ = some (.int .i64 b) := Joins.cell_of_block nb 1
      have n2 : w3.cell? ⟨wr.heap.size, 2, none⟩ = some (.pointer none) := Joins.cell_of_block nb 2
      have v0 : w3.cell? ⟨w.heap.size + 1, 0, none⟩ = some (.int .u64 0) := (hb3.cell (p := ⟨w.heap.size + 1, 0, none⟩) hl1).trans u0
      have v1 : w3.cell? ⟨w.heap.size + 1, 1, none⟩ = some (.int .i64 y) := (hb3.cell (p := ⟨w.heap.size + 1, 1, none⟩) hl1).trans u1
      have v2 : w3.cell? ⟨w.heap.size + 1, 2, none⟩ = some (.pointer none) := (hb3.cell (p := ⟨w.heap.size + 1, 2, none⟩) hl1).trans u2
      obtain ⟨hS, hB, hnx⟩ := hA2.out
      have hS3 := hS.later hb3
      have hB3 := hB.later hS.cut hkb hb0 hS.size hb3
      have hA3 : Aside (SC w b0 kb ks.length x y cutv pv kcur (x :: ((bdK V S E len k).take r).filter fun b => decide (x < b) && decide (b < y)) PL w3 ∧ Bd w b0 kb kc len V S E ks vs bv nv fv keyv cutv w3 ∧ Below wr.heap.size wr w3 ∧ Lays _ w3) := ⟨hS3, hB3, hb3, hl3⟩
      have hAnx : Aside ((bdK V S E len k).take (r + 1) = (bdK V S E len k).take r ++ [b]) := hnx
      clear hS hB hnx hS3 hB3 hA2 hb3 hl3 g0 g1 g2 u0 u1 u2 t0 t1 t2
      by_cases hx1 : x < b
      · have hdx : decide (x < b) = true := decide_eq_true hx1
        rw [hdx]
        go_wp2_with (go_at_call 20; refine (before20 b y _).mono ?_; rintro e w4 ⟨rfl, hl4⟩; refine Veil.off ?_)
        unfold Veil
        have m0 : w4.cell? ⟨wr.heap.size, 0, none⟩ = some (.int .u64 0) := (cell_lays' hl4 n0)
        have m1 : w4.cell? ⟨wr.heap.size, 1, none⟩ = some (.int .i64 b) := (cell_lays' hl4 n1)
        have m2 : w4.cell? ⟨wr.heap.size, 2, none⟩ = some (.pointer none) := (cell_lays' hl4 n2)
        obtain ⟨hS3, hB3, hb3, _⟩ := hA3.out
        have hS4 := hS3.later hl4.below
        have hB4 := hB3.later hS3.cut hkb hb0 hS3.size hl4.below
        have hA4 : Aside (SC w b0 kb ks.length x y cutv pv kcur (x :: ((bdK V S E len k).take r).filter fun b => decide (x < b) && decide (b < y)) PL w4 ∧ Bd w b0 kb kc len V S E ks vs bv nv fv keyv cutv w4) := ⟨hS4, hB4⟩
        have hrow4 := hS4.cut
        have hsz4 := hS4.size
        clear hS3 hB3 hb3 hS4 hB4 n0 n1 n2 v0 v1 v2 hl4
        by_cases hy1 : b < y
        · have hdy : decide (b < y) = true := decide_eq_true hy1
          rw [hdy]
          obtain ⟨CL, hCL⟩ : ∃ CL, (x :: ((bdK V S E len k).take r).filter fun b => decide (x < b) && decide (b < y)) = CL := ⟨_, rfl⟩
          rw [hCL] at hrow4 hA4
          have hcl : CL.length ≤ 900 := by
            rw [← hCL, List.length_cons]
            have := List.length_filter_le (fun b => decide (x < b) && decide (b < y)) ((bdK V S E len k).take r)
            have := List.length_take_le r (bdK V S E len k)
            omega
          have hCLn : (x :: ((bdK V S E len k).take (r + 1)).filter fun b => decide (x < b) && decide (b < y)) = CL ++ [b] := by
            rw [hAnx.out, List.filter_append, ← hCL]
            simp [hx1, hy1]
          have hACn : Aside ((x :: ((bdK V S E len k).take (r + 1)).filter fun b => decide (x < b) && decide (b < y)) = CL ++ [b]) := hCLn
          clear hCL hCLn
          go_wp2_with (at_builtin; refine Veil.off ?_)
          unfold Veil
          refine wpList_append_lies _ rfl (.tmp 66) (.tmp 68) 76 rfl (w.heap.size + 5) 29 i0 (tv 0) 3 24 Ybaz.underlying76 Hi.out.1 Hi.out.2.1 Hi.out.2.2.1 Hi.out.2.2.2 rfl (by decide) cutv CL.length _ rfl (hrow4.alloc _) ⟨w4.heap.size, 0, none⟩ 1 1 [.int .u64 0, .int .i64 b, .pointer none] rfl rfl ?a1 ?a2 (by decide) ?a3 ?a4 ?a5 _ rfl ?_
          case a1 => exact World.news_of_block (cs := #[.int .u64 0, .int .i64 b, .pointer none]) (by rw [alloc_at, if_pos rfl])
          case a2 => intro u hu; simp at hu; rcases hu with rfl | rfl | rfl <;> rfl
          case a3 => unfold maxLen; omega
          case a4 => omega
          case a5 => simp; omega
          intro g cap w5 hown5 hgrow5 hat5 _
          have hp := cut_push hA4.out.1 hA4.out.2 hkb hb0 hown5 hgrow5 hat5 (by simp)
          have hA5 : Aside (SC w b0 kb ks.length x y (.slice (some ⟨g, 0, none⟩) (CL.length + 1) cap) pv kcur (CL ++ [b]) PL w5 ∧ Bd w b0 kb kc len V S E ks vs bv nv fv keyv (.slice (some ⟨g, 0, none⟩) (CL.length + 1) cap) w5) := hp
          clear hp hown5 hgrow5 hat5 hrow4
          go_wp2
          go_roundg (L - r)
          case measure => omega
          case rel => exact ⟨r + 1, _, by go_num, rfl, by omega, by omega, by rw [hACn.out]; exact hA5.out.1, hA5.out.2⟩
        · have hdy : decide (b < y) = false := decide_eq_false hy1
          rw [hdy]
          have hCLn : (x :: ((bdK V S E len k).take (r + 1)).filter fun b => decide (x < b) && decide (b < y)) = (x :: ((bdK V S E len k).take r).filter fun b => decide (x < b) && decide (b < y)) := by
            rw [hAnx.out, List.filter_append]
            simp [hy1]
          have hACn : Aside ((x :: ((bdK V S E len k).take (r + 1)).filter fun b => decide (x < b) && decide (b < y)) = (x :: ((bdK V S E len k).take r).filter fun b => decide (x < b) && decide (b < y))) := hCLn
          clear hCLn hrow4
          go_wp2
          go_roundg (L - r)
          case measure => omega
          case rel => exact ⟨r + 1, _, by go_num, rfl, by omega, by omega, by rw [hACn.out]; exact hA4.out.1, hA4.out.2⟩
      · have hdx : decide (x < b) = false := decide_eq_false hx1
        rw [hdx]
        have hCLn : (x :: ((bdK V S E len k).take (r + 1)).filter fun b => decide (x < b) && decide (b < y)) = (x :: ((bdK V S E len k).take r).filter fun b => decide (x < b) && decide (b < y)) := by
          rw [hAnx.out, List.filter_append]
          simp [hx1]
        have hACn : Aside ((x :: ((bdK V S E len k).take (r + 1)).filter fun b => decide (x < b) && decide (b < y)) = (x :: ((bdK V S E len k).take r).filter fun b => decide (x < b) && decide (b < y))) := hCLn
        clear hCLn n0 n1 n2 v0 v1 v2
        go_wp2
        go_roundg (L - r)
        case measure => omega
        case rel => exact ⟨r + 1, _, by go_num, rfl, by omega, by omega, by rw [hACn.out]; exact hA3.out.1, hA3.out.2.1⟩
    · obtain rfl : r = L := by omega
      obtain ⟨CL, hCL⟩ : ∃ CL, (x :: ((bdK V S E len k).take r).filter fun b => decide (x < b) && decide (b < y)) = CL := ⟨_, rfl⟩
      have hCLe : CL ++ [y] = csOf x y V S E len ks i := by
        rw [← hCL, List.take_of_length_le (by omega)]
        unfold csOf cutsOf
        have hk : ks.getD i 0 = k := by simp [List.getD, hik]
        rw [hk]
        rfl
      rw [hCL] at hS
      have hcl : CL.length ≤ 900 := by
        rw [← hCL, List.length_cons]
        have := List.length_filter_le (fun b => decide (x < b) && decide (b < y)) ((bdK V S E len k).take r)
        have := List.length_take_le r (bdK V S E len k)
        omega
      have hl1 : w.heap.size + 1 < wr.heap.size := by have := hS.size; omega
      have u0 : wr.cell? ⟨w.heap.size + 1, 0, none⟩ = some (.int .u64 0) := Joins.cell_of_block hS.til 0
      have u1 : wr.cell? ⟨w.heap.size + 1, 1, none⟩ = some (.int .i64 y) := Joins.cell_of_block hS.til 1
      have u2 : wr.cell? ⟨w.heap.size + 1, 2, none⟩ = some (.pointer none) := Joins.cell_of_block hS.til 2
      have hA4 : Aside (SC w b0 kb ks.length x y cutv pv kcur CL PL wr ∧ Bd w b0 kb kc len V S E ks vs bv nv fv keyv cutv wr) := ⟨hS, hB⟩
      have hrow4 := hS.cut
      have hsz4 := hS.size
      have hACe : Aside (CL ++ [y] = csOf x y V S E len ks i) := hCLe
      clear hS hB hCL hCLe
      go_wp2
      refine hK1'.out _ _ ?_
      refine wp_seq_k fun K2 hK2 => ?_
      have hK2' : Aside (∀ (a : Act) (w : World), _ → K2 a w) := hK2
      clear hK2
      go_wp2_with (at_builtin; refine Veil.off ?_)
      unfold Veil
      refine wpList_append_lies _ rfl (.tmp 71) (.tmp 73) 76 rfl (w.heap.size + 5) 29 i0 (tv 0) 3 24 Ybaz.underlying76 Hi.out.1 Hi.out.2.1 Hi.out.2.2.1 Hi.out.2.2.2 rfl (by decide) cutv CL.length _ rfl (hrow4.alloc _) ⟨wr.heap.size, 0, none⟩ 1 1 [.int .u64 0, .int .i64 y, .pointer none] rfl rfl ?a1 ?a2 (by decide) ?a3 ?a4 ?a5 _ rfl ?_
      case a1 => exact World.news_of_block (cs := #[.int .u64 0, .int .i64 y, .pointer none]) (by rw [alloc_at, if_pos rfl])
      case a2 => intro u hu; simp at hu; rcases hu with rfl | rfl | rfl <;> rfl
      case a3 => unfold maxLen; omega
      case a4 => omega
      case a5 => simp; omega
      intro g cap w5 hown5 hgrow5 hat5 _
      have hp := cut_push hA4.out.1 hA4.out.2 hkb hb0 hown5 hgrow5 hat5 (by simp)
      have hA5 : Aside (SC w b0 kb ks.length x y (.slice (some ⟨g, 0, none⟩) (CL.length + 1) cap) pv kcur (CL ++ [y]) PL w5 ∧ Bd w b0 kb kc len V S E ks vs bv nv fv keyv (.slice (some ⟨g, 0, none⟩) (CL.length + 1) cap) w5) := hp
      clear hp hown5 hgrow5 hat5 hrow4 u0 u1 u2
      go_wp2
      refine hK2'.out _ _ ?_
      have hlen1 : CL.length + 1 = (CL ++ [y]).length := by simp
      rw [hlen1]
      have hcs := hACe.out
      have hcr : ∀ c ∈ CL ++ [y], 0 ≤ c ∧ c ≤ 1000000 := fun c hc => by
        rw [hcs] at hc
        rcases cutsOf_mem hc with h | h | h
        · omega
        · omega
        · obtain ⟨j, hj, h | h⟩ := bdK_mem h
          · have := hST j hj; omega
          · have := hST j hj; omega
      have hcp : (CL ++ [y]).Pairwise (· < ·) := by
        rw [hcs]
        exact cutsOf_strict hxy (bdK_strict _ _ _ _ _)
      refine sup_D fb b0 kb kc len i V S E ks vs bv nv fv keyv x y sp d kcur PL w cv hkb hb0 g cap (CL ++ [y]) (by simp; omega) hcr hcp (by simp) hPL hsp0 hsp1 hd hAfb.out hfn pv w5 ?_ ?_ _ _ _ _ _ _ _ _ _ _ _ _ _ _ _ _ _ _ _ _ _ _ _ _ _ _ _ _ _ _ _ _ _ _ _ _ _ _ _ _ _ _ _ _ _ _ _ _ _ _ _ _ _ _ _ _ _ _ _ _ _ _ _ _ _ _ _ _ _ _ _ _ _ _ _ _ _ _ _ _ _ _ _ _ _ _ _ _ _ _ _ _ _ _ _ _ _ _ _ _ _ _ _ _ _ _ _ ?_
      · have h := hA5.out.1
        rw [hlen1] at h
        exact h
      · have h := hA5.out.2
        rw [hlen1] at h
        exact h
      · intro pv' w' e13 e14 e75 e76 e77 e78 e79 e80 e81 e82 e83 e84 e85 e86 e87 e88 e89 e90 e91 e92 e93 e94 e95 e96 e97 e98 e99 e100 e101 e102 e103 e104 e105 e106 e107 e108 e109 e110 hSf hBf
        have hSf' : SC w b0 kb ks.length x y (.slice (some ⟨g, 0, none⟩) (CL ++ [y]).length cap) pv' kcur (csOf x y V S E len ks i) (PL ++ pieces i d sp (csOf x y V S E len ks i)) w' := by
          rw [← hcs]
          exact hSf
        exact hAQ.out bv _ pv' w' _ _ _ _ _ _ _ _ _ _ _ _ _ _ _ _ _ _ _ _ _ _ _ _ _ _ _ _ _ _ _ _ _ _ _ _ _ _ _ _ _ _ _ _ _ _ _ _ _ _ _ _ _ _ _ _ _ _ _ _ _ _ _ _ _ _ _ hSf' hBf
end Go.Proofs.YbulkcelaGreatDoor
