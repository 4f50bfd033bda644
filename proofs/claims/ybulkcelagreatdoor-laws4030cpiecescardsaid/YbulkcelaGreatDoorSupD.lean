/-
  Supply: the pieces of one kind (seat b4030aZD).
-/
import Derived.Test.YbulkcelaGreatDoorSupR
namespace Go.Proofs.YbulkcelaGreatDoor
open Go.RowKit Go.MapKept Go.Lib Go.Shelf Go.Maps Go.Sort

/-- The rest of a chain of statements, from the one whose first region is the n-th, within loops too. -/
def fromIn (n : Nat) : Code → Option Code
  | .seq a b => match headR a == some n with
    | true => some (.seq a b)
    | false => match fromIn n a with
      | some c => some c
      | none => fromIn n b
  | .cond _ a b => match fromIn n a with
    | some c => some c
    | none => fromIn n b
  | .block _ c => fromIn n c
  | .scope c => fromIn n c
  | .loop c => fromIn n c
  | _ => none

noncomputable def supD : Code := (Ybaz.f9.body.bind (fromIn 15)).getD .skip

set_option linter.unusedSimpArgs false in
set_option maxRecDepth 100000 in
set_option maxHeartbeats 2000000 in
theorem sup_D (fb b0 kb kc len i : Nat) (V : Nat → Nat) (S E : Nat → Int) (ks : List Int) (vs bv : Nat → Value) (nv fv keyv : Value) (x y sp d : Int) (kcur : Array Value) (PL : List (Nat × Nat × Int)) (w : World) (cv : Value) (hkb : kb < w.heap.size) (hb0 : b0 + 2 < w.heap.size) (cg cap : Nat) (CL : List Int) (hCL : CL.length ≤ 1000) (hCr : ∀ c ∈ CL, 0 ≤ c ∧ c ≤ 1000000) (hCs : CL.Pairwise (· < ·)) (hCp : 1 ≤ CL.length) (hPL : PL.length ≤ 1000000) (hsp0 : 0 < sp) (hsp1 : sp ≤ 1000000) (hd : d.natAbs < 9007199254740992) (hfb : w.heap[fb]? = some (.cells #[.pointer (some ⟨b0 + 2, 0, none⟩), cv, .float .f64 (fi sp)] 73 (0, 0))) (hfn : fb ≠ kb ∧ fb ≠ b0 + 2)
    (pv : Value) (wr : World) (hSC : SC w b0 kb ks.length x y (.slice (some ⟨cg, 0, none⟩) CL.length cap) pv kcur CL PL wr) (hBd : Bd w b0 kb kc len V S E ks vs bv nv fv keyv (.slice (some ⟨cg, 0, none⟩) CL.length cap) wr)
    (df : List Deferred) (Q : Exit → Act → World → Prop) (c1 c2 c3 c11 c12 c13 c14 c15 c16 c17 c18 c19 c20 c21 c22 c23 c24 c25 c26 c27 c28 c29 c30 c31 c32 c33 c34 c35 c36 c37 c38 c39 c40 c41 c42 c43 c44 c45 c46 c47 c48 c49 c50 c51 c52 c53 c54 c55 c56 c57 c58 c59 c60 c61 c62 c63 c64 c65 c66 c67 c68 c69 c70 c71 c72 c73 c74 c75 c76 c77 c78 c79 c80 c81 c82 c83 c84 c85 c86 c87 c88 c89 c90 c91 c92 c93 c94 c95 c96 c97 c98 c99 c100 c101 c102 c103 c104 c105 c106 c107 c108 c109 c110 c111 c112 : Value) (hQ : ∀ (pv' : Value) (w' : World) (e13 e14 e75 e76 e77 e78 e79 e80 e81 e82 e83 e84 e85 e86 e87 e88 e89 e90 e91 e92 e93 e94 e95 e96 e97 e98 e99 e100 e101 e102 e103 e104 e105 e106 e107 e108 e109 e110 : Value), SC w b0 kb ks.length x y (.slice (some ⟨cg, 0, none⟩) CL.length cap) pv' kcur CL (PL ++ pieces i d sp CL) w' → Bd w b0 kb kc len V S E ks vs bv nv fv keyv (.slice (some ⟨cg, 0, none⟩) CL.length cap) w' → Q .normal ⟨#[.pointer (some ⟨fb, 0, none⟩), c1, c2, c3, .pointer (some ⟨w.heap.size, 0, none⟩), .pointer (some ⟨w.heap.size + 1, 0, none⟩), .pointer (some ⟨w.heap.size + 2, 0, none⟩), .pointer (some ⟨w.heap.size + 4, 0, none⟩), .slice (some ⟨cg, 0, none⟩) CL.length cap, .int .i64 (i : Nat), .float .f64 (fi d), c11, c12, e13, e14, c15, c16, c17, c18, c19, c20, c21, c22, c23, c24, c25, c26, c27, c28, c29, c30, c31, c32, c33, c34, c35, c36, c37, c38, c39, c40, c41, c42, c43, c44, c45, c46, c47, c48, c49, c50, c51, c52, c53, c54, c55, c56, c57, c58, c59, c60, c61, c62, c63, c64, c65, c66, c67, c68, c69, c70, c71, c72, c73, c74, e75, e76, e77, e78, e79, e80, e81, e82, e83, e84, e85, e86, e87, e88, e89, e90, e91, e92, e93, e94, e95, e96, e97, e98, e99, e100, e101, e102, e103, e104, e105, e106, e107, e108, e109, e110, c111, c112], df⟩ w') :
    supD.wp Ybaz.prog Q ⟨#[.pointer (some ⟨fb, 0, none⟩), c1, c2, c3, .pointer (some ⟨w.heap.size, 0, none⟩), .pointer (some ⟨w.heap.size + 1, 0, none⟩), .pointer (some ⟨w.heap.size + 2, 0, none⟩), .pointer (some ⟨w.heap.size + 4, 0, none⟩), .slice (some ⟨cg, 0, none⟩) CL.length cap, .int .i64 (i : Nat), .float .f64 (fi d), c11, c12, c13, c14, c15, c16, c17, c18, c19, c20, c21, c22, c23, c24, c25, c26, c27, c28, c29, c30, c31, c32, c33, c34, c35, c36, c37, c38, c39, c40, c41, c42, c43, c44, c45, c46, c47, c48, c49, c50, c51, c52, c53, c54, c55, c56, c57, c58, c59, c60, c61, c62, c63, c64, c65, c66, c67, c68, c69, c70, c71, c72, c73, c74, c75, c76, c77, c78, c79, c80, c81, c82, c83, c84, c85, c86, c87, c88, c89, c90, c91, c92, c93, c94, c95, c96, c97, c98, c99, c100, c101, c102, c103, c104, c105, c106, c107, c108, c109, c110, c111, c112], df⟩ wr := by
  have hAQ : Aside (∀ (pv' : Value) (w' : World) (e13 e14 e75 e76 e77 e78 e79 e80 e81 e82 e83 e84 e85 e86 e87 e88 e89 e90 e91 e92 e93 e94 e95 e96 e97 e98 e99 e100 e101 e102 e103 e104 e105 e106 e107 e108 e109 e110 : Value), SC w b0 kb ks.length x y (.slice (some ⟨cg, 0, none⟩) CL.length cap) pv' kcur CL (PL ++ pieces i d sp CL) w' → Bd w b0 kb kc len V S E ks vs bv nv fv keyv (.slice (some ⟨cg, 0, none⟩) CL.length cap) w' → Q .normal ⟨#[.pointer (some ⟨fb, 0, none⟩), c1, c2, c3, .pointer (some ⟨w.heap.size, 0, none⟩), .pointer (some ⟨w.heap.size + 1, 0, none⟩), .pointer (some ⟨w.heap.size + 2, 0, none⟩), .pointer (some ⟨w.heap.size + 4, 0, none⟩), .slice (some ⟨cg, 0, none⟩) CL.length cap, .int .i64 (i : Nat), .float .f64 (fi d), c11, c12, e13, e14, c15, c16, c17, c18, c19, c20, c21, c22, c23, c24, c25, c26, c27, c28, c29, c30, c31, c32, c33, c34, c35, c36, c37, c38, c39, c40, c41, c42, c43, c44, c45, c46, c47, c48, c49, c50, c51, c52, c53, c54, c55, c56, c57, c58, c59, c60, c61, c62, c63, c64, c65, c66, c67, c68, c69, c70, c71, c72, c73, c74, e75, e76, e77, e78, e79, e80, e81, e82, e83, e84, e85, e86, e87, e88, e89, e90, e91, e92, e93, e94, e95, e96, e97, e98, e99, e100, e101, e102, e103, e104, e105, e106, e107, e108, e109, e110, c111, c112], df⟩ w') := hQ
  have hA0 : Aside (SC w b0 kb ks.length x y (.slice (some ⟨cg, 0, none⟩) CL.length cap) pv kcur CL PL wr ∧ Bd w b0 kb kc len V S E ks vs bv nv fv keyv (.slice (some ⟨cg, 0, none⟩) CL.length cap) wr) := ⟨hSC, hBd⟩
  have hAC : Aside ((∀ c ∈ CL, 0 ≤ c ∧ c ≤ 1000000) ∧ CL.Pairwise (· < ·)) := ⟨hCr, hCs⟩
  have hfl : fb < w.heap.size := (Array.getElem?_eq_some_iff.1 hfb).1
  clear hQ hSC hBd hCr hCs
  conv => arg 2; whnf
  go_wp2
  go_loopg [13] (CL.length + 1) (fun q v13 wx => ∃ (m : Nat) (pv' : Value), v13 = .int .i64 ((m : Nat) + 1 : Int) ∧ m + 1 ≤ CL.length ∧ CL.length - m < q ∧ SC w b0 kb ks.length x y (.slice (some ⟨cg, 0, none⟩) CL.length cap) pv' kcur CL (PL ++ (pieces i d sp CL).take m) wx ∧ Bd w b0 kb kc len V S E ks vs bv nv fv keyv (.slice (some ⟨cg, 0, none⟩) CL.length cap) wx)
  case atStart => exact ⟨0, pv, rfl, hCp, by omega, by simpa using hA0.out.1, hA0.out.2⟩
  case round =>
    obtain ⟨m, pv', rfl, hmn, hq, hSC, hBd⟩ := hrel
    by_cases hlt : m + 1 < CL.length
    · obtain ⟨hcg, a0, a1, a2⟩ := row_time hSC.cut (k := m) (by omega)
      obtain ⟨_, b0', b1, b2⟩ := row_time hSC.cut (k := m + 1) hlt
      have hfbw : wr.heap[fb]? = some (.cells #[.pointer (some ⟨b0 + 2, 0, none⟩), cv, .float .f64 (fi sp)] 73 (0, 0)) := (hSC.low fb hfl hfn.1 hfn.2).trans hfb
      have f2 : wr.cell? ⟨fb, 2, none⟩ = some (.float .f64 (fi sp)) := Joins.cell_of_block hfbw 2
      have hfl2 : fb < wr.heap.size := (Array.getElem?_eq_some_iff.1 hfbw).1
      obtain ⟨hCr, hCs⟩ := hAC.out
      have hab := getD_lt hCs hlt
      have ha := hCr _ (getD_mem (show m < CL.length by omega))
      have hb := hCr _ (getD_mem hlt)
      have hpg := pieces_get i d sp CL m hlt
      obtain ⟨a, haa⟩ : ∃ a, CL.getD m 0 = a := ⟨_, rfl⟩
      obtain ⟨b, hbb⟩ : ∃ b, CL.getD (m + 1) 0 = b := ⟨_, rfl⟩
      rw [haa] at a1 ha hab hpg
      rw [hbb] at b1 hb hab hpg
      obtain ⟨r, hr, hnum⟩ := fi_quo (b - a) sp (by omega) (by omega) hsp0 hsp1
      obtain ⟨t, ht, _⟩ := fi_mul d hd r hnum
      have hcnt : cntOf d sp a b = t := by unfold cntOf; rw [hr, Option.bind_some, ht]; rfl
      rw [hcnt] at hpg
      have hnx : (pieces i d sp CL).take (m + 1) = (pieces i d sp CL).take m ++ [(i, t, a)] := take_next hpg
      have hAS : Aside (SC w b0 kb ks.length x y (.slice (some ⟨cg, 0, none⟩) CL.length cap) pv' kcur CL (PL ++ (pieces i d sp CL).take m) wr ∧ Bd w b0 kb kc len V S E ks vs bv nv fv keyv (.slice (some ⟨cg, 0, none⟩) CL.length cap) wr ∧ (pieces i d sp CL).take (m + 1) = (pieces i d sp CL).take m ++ [(i, t, a)]) := ⟨hSC, hBd, hnx⟩
      have hlt' : (m : Int) + 1 < (CL.length : Int) := by omega
      clear hSC hBd hfbw hCr hCs hpg hnum hcnt hnx hbb
      go_wp2
      refine sup_r18 fb cg CL.length cap m a b sp r wr hlt (by omega) hcg hfl2 f2 a0 a1 a2 b0' b1 b2 (by omega) (by omega) (by omega) (by omega) hr _ _ _ _ _ _ _ _ _ _ _ _ _ _ _ _ _ _ _ _ _ _ _ _ _ _ _ _ _ _ _ _ _ _ _ _ _ _ _ _ _ _ _ _ _ _ _ _ _ _ _ _ _ _ _ _ _ _ _ _ _ _ _ _ _ _ _ _ _ _ _ _ _ _ _ _ _ _ _ _ _ _ _ _ _ _ _ _ _ _ _ _ _ _ _ _ _ _ _ _ _ _ _ _ _ _ _ _ _ _ _ _ (fun w1 e81 e82 e83 e84 e85 e86 e87 e88 e89 e90 e91 e92 e93 e94 e95 hl1 => ?_)
      obtain ⟨hSC, hBd, hnx⟩ := hAS.out
      have hS1 := hSC.later hl1.below
      have hB1 := hBd.later hSC.cut hkb hb0 hSC.size hl1.below
      obtain ⟨_, a0', a1', a2'⟩ := row_time hS1.cut (k := m) (by omega)
      have hsz1 := hS1.size
      have hs1 : w1.cell? ⟨w.heap.size + 4, 1, none⟩ = some pv' := Joins.cell_of_block hS1.sup 1
      obtain ⟨L, hL⟩ : ∃ L, (PL ++ (pieces i d sp CL).take m).length = L := ⟨_, rfl⟩
      have hLl : L ≤ 100000000 := by
        rw [← hL, List.length_append]
        have := List.length_take_le m (pieces i d sp CL)
        omega
      rw [haa] at a1'
      have hpc := hS1.pcs
      rw [hL] at hpc
      have hkp : ∀ w' : World, w1.grownBy w' pv'.ownBlock → w'.cell? ⟨w.heap.size + 4, 1, none⟩ = some pv' ∧ w'.frozen? ⟨w.heap.size + 4, 1, none⟩ = false := fun w' hg => by
        have hh := (hg.block (w.heap.size + 4) (by omega) (fun e => by have := (own_block hS1.pcs e.symm).1; omega)).trans hS1.sup
        exact ⟨Joins.cell_of_block hh 1, Joins.unfrozen_of_block hh 1⟩
      have hAS1 : Aside (SC w b0 kb ks.length x y (.slice (some ⟨cg, 0, none⟩) CL.length cap) pv' kcur CL (PL ++ (pieces i d sp CL).take m) w1 ∧ Bd w b0 kb kc len V S E ks vs bv nv fv keyv (.slice (some ⟨cg, 0, none⟩) CL.length cap) w1) := ⟨hS1, hB1⟩
      clear hSC hBd hS1 hB1 a0 a1 a2 b0' b1 b2 f2 hAS
      have hAnx : Aside ((pieces i d sp CL).take (m + 1) = (pieces i d sp CL).take m ++ [(i, t, a)]) := hnx
      clear hnx
      go_wp2
      refine sup_r19 (w.heap.size + 4) cg CL.length cap m i L (w.heap.size + 5) a (fi d) r t pv' _ w1 hlt (by omega) (by omega) a0' a1' a2' hs1 hpc hsz1 hLl ht hkp _ _ _ _ _ _ _ _ _ _ _ _ _ _ _ _ _ _ _ _ _ _ _ _ _ _ _ _ _ _ _ _ _ _ _ _ _ _ _ _ _ _ _ _ _ _ _ _ _ _ _ _ _ _ _ _ _ _ _ _ _ _ _ _ _ _ _ _ _ _ _ _ _ _ _ _ _ _ _ _ _ _ _ _ _ _ _ _ _ _ _ _ _ _ _ _ _ _ _ _ _ _ _ _ _ _ _ _ _ (fun g c' w2 e96 e97 e98 e99 e100 e101 e102 e103 e104 e105 e106 e107 e108 e109 e110 hown2 hg2 => ?_)
      obtain ⟨hS1, hB1⟩ := hAS1.out
      have hrow : w2.ownsRow (w.heap.size + 5) 64 6 (.slice (some ⟨g, 0, none⟩) (L + 1) c') (PL ++ (pieces i d sp CL).take (m + 1)).length ((PL ++ (pieces i d sp CL).take (m + 1)).flatMap encP) := by
        rw [hAnx.out, ← List.append_assoc, List.flatMap_append, List.length_append, hL]
        exact hown2
      obtain ⟨q1, q2, hS2⟩ := hS1.piece hg2 hrow
      have hB2 := hB1.piece hpc hkb hb0 hsz1 hg2 (.slice (some ⟨g, 0, none⟩) (L + 1) c')
      have hA2 : Aside (SC w b0 kb ks.length x y (.slice (some ⟨cg, 0, none⟩) CL.length cap) (.slice (some ⟨g, 0, none⟩) (L + 1) c') kcur CL (PL ++ (pieces i d sp CL).take (m + 1)) (w2.setCell ⟨w.heap.size + 4, 1, none⟩ (.slice (some ⟨g, 0, none⟩) (L + 1) c')) ∧ Bd w b0 kb kc len V S E ks vs bv nv fv keyv (.slice (some ⟨cg, 0, none⟩) CL.length cap) (w2.setCell ⟨w.heap.size + 4, 1, none⟩ (.slice (some ⟨g, 0, none⟩) (L + 1) c'))) := ⟨hS2, hB2⟩
      clear hS1 hB1 hrow q1 q2 hS2 hB2 hown2 hg2 hpc hkp a0' a1' a2' hs1
      go_wp2
      go_roundg (CL.length - m)
      case measure => omega
      case rel => exact ⟨m + 1, _, by go_num, by omega, by omega, hA2.out.1, hA2.out.2⟩
    · have hm1 : m + 1 = CL.length := by omega
      have hnlt : ¬ ((m : Int) + 1 < (CL.length : Int)) := by omega
      have ht : (pieces i d sp CL).take m = pieces i d sp CL := List.take_of_length_le (by rw [pieces_length]; omega)
      rw [ht] at hSC
      have hA2 : Aside (SC w b0 kb ks.length x y (.slice (some ⟨cg, 0, none⟩) CL.length cap) pv' kcur CL (PL ++ pieces i d sp CL) wr ∧ Bd w b0 kb kc len V S E ks vs bv nv fv keyv (.slice (some ⟨cg, 0, none⟩) CL.length cap) wr) := ⟨hSC, hBd⟩
      clear hSC hBd ht
      go_wp2
      exact hAQ.out _ _ _ _ _ _ _ _ _ _ _ _ _ _ _ _ _ _ _ _ _ _ _ _ _ _ _ _ _ _ _ _ _ _ _ _ _ _ _ _ hA2.out.1 hA2.out.2
end Go.Proofs.YbulkcelaGreatDoor
