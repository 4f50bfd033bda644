/-
  LawS4032CSingleStep: the sorted list of SMs (seat b4032aZ).
-/
import Derived.Test.YbulkcemcGreatLawC
import Derived.Lib.RowBridge
import Derived.Sort.OwnSortedInts
import Derived.Shelf.SortM.SortNone
namespace Go.Proofs.YbulkcemcGreat
open Go.RowKit Go.Shelf Go.Lib Go.Sort

noncomputable def lawB : Code := (Ybaz.f3.body.bind (fromR 9)).getD .skip

theorem compact_sub (zs : List Int) : (compact zs).Sublist zs := by
  have h : ((List.range zs.toArray.size).map (zs.toArray[·]!)) = zs := by rw [range_map_get]
  have h2 : (compact zs).Sublist ((List.range zs.toArray.size).map (zs.toArray[·]!)) := by
    unfold compact compactUpTo
    exact (List.filter_sublist).map _
  rwa [h] at h2

theorem compact_pos {zs : List Int} (h : 0 < zs.length) : 0 < (compact zs).length := by
  unfold compact compactUpTo
  rw [List.length_map]
  refine List.length_pos_of_mem (a := 0) ?_
  rw [List.mem_filter]
  exact ⟨List.mem_range.2 h, keeps_lt_one _ 0 (by omega)⟩

theorem ArgS.below {w w' : World} {B : Nat} {a : Option Addr} {len : Nat} {F : Nat → Int} {M : Nat → Nat} (h : ArgS w B a len F M) (hb : Below B w w') : ArgS w' B a len F M := fun i hi => by
  obtain ⟨b, off, e, h1, h2, h3, h4⟩ := h i hi
  exact ⟨b, off, e, h1, (hb.cell (p := ⟨b, off + i * 2, none⟩) h1).trans h2, (hb.cell (p := ⟨b, off + i * 2 + 1, none⟩) h1).trans h3, h4⟩

theorem sort4 (b c : Nat) (L : List Int) (w : World) (B : Nat) (hB : B ≤ w.heap.size) (hrow : w.ownsRow B 3 1 (.slice (some ⟨b, 0, none⟩) L.length c) L.length (L.map (Value.int .i64))) (hl : L.length ≤ 256) :
    Calls Ybaz.prog 4 #[.slice (some ⟨b, 0, none⟩) L.length c] w fun e w' => e = .returned (.tuple #[]) ∧ Below B w w' ∧ w'.ownsRow B 3 1 (.slice (some ⟨b, 0, none⟩) (sortI L).length c) (sortI L).length ((sortI L).map (Value.int .i64)) := by
  rcases hrow.2 with ⟨e, _⟩ | ⟨g, cp, cur, e, hg, hcur, h1, h2, h3, h4⟩
  · cases e
  cases e
  have hH := holds_of_blockI hcur (by simpa using h4)
  have h := AnyM.slices_Sort_int Ybaz.sortI b 0 c L w hH (Array.getElem?_eq_some_iff.1 hcur).1 (by omega)
  change Calls Ybaz.prog 4 _ _ _ at h
  refine h.mono fun e w' ⟨he, n, os, hw⟩ => ⟨he, ?_, ?_⟩
  · rw [hw]
    exact (Below.refl B w).grown (grownBy_sortedI _) hB (fun j e => by cases e; exact hg)
  · rw [hw, sortI_length]
    exact ownsRow_sortedI (sortI_length L) hg hcur h1 h2 h3

theorem comp5 (b c : Nat) (L : List Int) (w : World) (B : Nat) (hB : B ≤ w.heap.size) (hrow : w.ownsRow B 3 1 (.slice (some ⟨b, 0, none⟩) L.length c) L.length (L.map (Value.int .i64))) (hl : L.length ≤ 256) :
    Calls Ybaz.prog 5 #[.slice (some ⟨b, 0, none⟩) L.length c] w fun e w' => e = .returned (.slice (some ⟨b, 0, none⟩) (compact L).length c) ∧ Below B w w' ∧ b < w'.heap.size ∧ IntsAt w' b (compact L) := by
  rcases hrow.2 with ⟨e, _⟩ | ⟨g, cp, cur, e, hg, hcur, h1, h2, h3, h4⟩
  · cases e
  cases e
  have hH := holds_of_blockI hcur (by simpa using h4)
  have h := Any.slices_Compact_int Ybaz.compI b 0 c L w hH (by omega) h1
  change Calls Ybaz.prog 5 _ _ _ at h
  have hlt := (Array.getElem?_eq_some_iff.1 hcur).1
  have hcl := compact_length_le L
  refine h.mono fun e w' ⟨he, q, hw⟩ => ⟨he, ?_, ?_, ?_⟩
  · rw [hw, ← grow_empty (putRow _ _ _ _ _)]
    exact (Below.refl B w).grown (grownBy_sortedI _) hB (fun j e => by cases e; exact hg)
  · rw [hw]
    simpa using hlt
  · intro j hj
    rw [hw]
    have h5 := cell?_putRow (Value.int .i64) (Sort.ahead w q) b 0 L.toArray (compact L ++ List.replicate (L.length - (compact L).length) 0).toArray (holds_ahead _ _ _ _ _ _ hH) (by simp; omega) j (by simp; omega)
    rw [Nat.zero_add] at h5
    rw [h5]
    simp [List.getD, List.getElem?_append_left hj, hj]

set_option linter.unusedSimpArgs false in
set_option maxRecDepth 100000 in
set_option maxHeartbeats 1000000 in
theorem law_B (a0 : Option Addr) (len0 cap0 sr : Nat) (v : Value) (L : List Int) (F : Nat → Int) (M : Nat → Nat) (lo U : Int) (w0 w : World) (B : Nat) (hb : Below B w0 w) (hB : B ≤ w.heap.size) (hArg : ArgS w B a0 len0 F M) (hl0 : len0 ≤ 256) (hlo : -2147483648 ≤ lo ∧ lo ≤ 2147483647) (hU : 0 ≤ U ∧ U ≤ 65535)
    (hrow : w.ownsRow B 3 1 v L.length (L.map (Value.int .i64))) (hL : L.length ≤ 256) (hLr : ∀ x ∈ L, 0 ≤ x ∧ x ≤ 255) (R : Ending → World → Prop) (hR : ∀ w', Below B w0 w' → R (.returned (.bool true)) w') (c1 c5 c6 c7 c8 c9 c10 c12 c13 c14 c15 c16 c17 c18 c19 c20 c21 c22 c23 c24 c25 c26 c27 c28 c29 c30 c31 c32 c33 c34 c35 c36 c37 c38 c39 c40 c41 c42 c43 c44 c45 c46 c47 c48 c49 c50 c51 c52 c53 c54 c55 c56 c57 c58 c59 c60 c61 c62 c63 c64 c65 c66 c67 c68 c69 c70 c71 c72 c73 c74 c75 c76 c77 c78 c79 c80 c81 c82 c83 c84 c85 c86 c87 c88 c89 c90 c91 c92 c93 c94 c95 c96 c97 c98 c99 c100 c101 c102 c103 c104 c105 c106 c107 c108 c109 c110 c111 c112 c113 c114 c115 c116 c117 c118 c119 c120 c121 c122 c123 c124 c125 c126 c127 c128 c129 c130 c131 c132 c133 c134 c135 c136 c137 c138 c139 c140 c141 c142 c143 c144 c145 c146 c147 c148 c149 c150 c151 c152 c153 c154 c155 c156 c157 c158 c159 c160 c161 c162 c163 c164 c165 c166 c167 c168 c169 c170 c171 c172 c173 c174 c175 c176 c177 c178 c179 c180 c181 c182 c183 c184 c185 c186 c187 c188 c189 c190 c191 c192 c193 c194 c195 c196 c197 c198 c199 c200 c201 c202 c203 c204 c205 c206 : Value) :
    lawB.wp Ybaz.prog (bodyPost Ybaz.prog Ybaz.f3 R) ⟨#[.slice a0 len0 cap0, c1, .int .u8 (sr : Int), .int .i32 lo, .int .u16 U, c5, c6, c7, c8, c9, c10, v, c12, c13, c14, c15, c16, c17, c18, c19, c20, c21, c22, c23, c24, c25, c26, c27, c28, c29, c30, c31, c32, c33, c34, c35, c36, c37, c38, c39, c40, c41, c42, c43, c44, c45, c46, c47, c48, c49, c50, c51, c52, c53, c54, c55, c56, c57, c58, c59, c60, c61, c62, c63, c64, c65, c66, c67, c68, c69, c70, c71, c72, c73, c74, c75, c76, c77, c78, c79, c80, c81, c82, c83, c84, c85, c86, c87, c88, c89, c90, c91, c92, c93, c94, c95, c96, c97, c98, c99, c100, c101, c102, c103, c104, c105, c106, c107, c108, c109, c110, c111, c112, c113, c114, c115, c116, c117, c118, c119, c120, c121, c122, c123, c124, c125, c126, c127, c128, c129, c130, c131, c132, c133, c134, c135, c136, c137, c138, c139, c140, c141, c142, c143, c144, c145, c146, c147, c148, c149, c150, c151, c152, c153, c154, c155, c156, c157, c158, c159, c160, c161, c162, c163, c164, c165, c166, c167, c168, c169, c170, c171, c172, c173, c174, c175, c176, c177, c178, c179, c180, c181, c182, c183, c184, c185, c186, c187, c188, c189, c190, c191, c192, c193, c194, c195, c196, c197, c198, c199, c200, c201, c202, c203, c204, c205, c206], []⟩ w := by
  obtain ⟨p, hp⟩ : ∃ p, sr % 50 = p := ⟨_, rfl⟩
  have hp1 : p < 50 := by omega
  have htm : (sr : Int).tmod 50 = (p : Int) := by rw [← hp]; exact (Int.ofNat_tmod sr 50).symm
  have hAR : Aside (∀ w', Below B w0 w' → R (.returned (.bool true)) w') := hR
  have hA : Aside (ArgS w B a0 len0 F M ∧ ∀ x ∈ L, 0 ≤ x ∧ x ≤ 255) := ⟨hArg, hLr⟩
  clear hR hArg hLr
  conv => arg 2; whnf
  by_cases hL0 : 0 < L.length
  · obtain ⟨g, c, hv⟩ := Joins.ownsRow_form hrow hL0
    subst hv
    have hsort := sort4 g c L w B hB hrow hL
    have hcomp := fun w1 (h1 : Below B w w1) hr => comp5 g c (sortI L) w1 B (Nat.le_trans hB h1.size) hr (by rw [sortI_length]; exact hL)
    obtain ⟨S, hS⟩ : ∃ S, compact (sortI L) = S := ⟨_, rfl⟩
    have hSp : 0 < S.length := by rw [← hS]; exact compact_pos (by rw [sortI_length]; exact hL0)
    have hSl : S.length ≤ 256 := by rw [← hS]; have := compact_length_le (sortI L); rw [sortI_length] at this; omega
    have hSs : S.Pairwise (· ≤ ·) := by rw [← hS]; exact (sortI_sorted L).sublist (compact_sub _)
    have hSr : ∀ x ∈ S, 0 ≤ x ∧ x ≤ 255 := fun x hx => hA.out.2 x (sortI_mem.1 ((compact_sub _).subset (by rw [hS]; exact hx)))
    have hAS : Aside (S.Pairwise (· ≤ ·) ∧ ∀ x ∈ S, 0 ≤ x ∧ x ≤ 255) := ⟨hSs, hSr⟩
    rw [hS, sortI_length] at hcomp
    rw [sortI_length] at hsort
    clear hS hSs hSr hrow
    have hSne : ((S.length : Int) == 0) = false := beq_eq_false_iff_ne.2 (by omega)
    refine wp_seq_k fun K1 hK1 => ?_
    have hK1' : Aside (∀ (a : Act) (w : World), _ → K1 a w) := hK1
    clear hK1
    go_wp2_with (go_at_call 4; refine hsort.mono ?_; rintro e w1 ⟨rfl, hb1, hr1⟩)
    have hcomp1 := hcomp w1 hb1 hr1
    clear hcomp hsort hr1
    refine hK1'.out _ _ ?_
    clear hK1'
    refine wp_seq_k fun K2 hK2 => ?_
    have hK2' : Aside (∀ (a : Act) (w : World), _ → K2 a w) := hK2
    clear hK2
    go_wp2_with (go_at_call 5; refine hcomp1.mono ?_; rintro e w2 ⟨rfl, hb2, hlt2, hI2⟩)
    clear hcomp1
    refine hK2'.out _ _ ?_
    clear hK2'
    have hAI : Aside (IntsAt w2 g S) := hI2
    clear hI2
    refine wp_seq_k fun K3 hK3 => ?_
    have hK3' : Aside (∀ (a : Act) (w : World), _ → K3 a w) := hK3
    clear hK3
    go_wp2
    refine hK3'.out _ _ ?_
    clear hK3'
    refine wp_seq_k fun K4 hK4 => ?_
    have hK4' : Aside (∀ (a : Act) (w : World), _ → K4 a w) := hK4
    clear hK4
    go_wp2
    refine hK4'.out _ _ ?_
    clear hK4'
    have hb12 := hb1.trans hb2
    exact law_C a0 len0 cap0 g c (1 + p) F M S lo U w0 w2 B (hb.trans hb12) (Nat.le_trans hB hb12.size) (hA.out.1.below hb12) hl0 hlo hU ⟨hlt2, hAI.out, hSp, hSl, hAS.out.1, hAS.out.2⟩ (by omega) (by omega) R hAR.out _ _ _ _ _ _ _ _ _ _ _ _ _ _ _ _ _ _ _ _ _ _ _ _ _ _ _ _ _ _ _ _ _ _ _ _ _ _ _ _ _ _ _ _ _ _ _ _ _ _ _ _ _ _ _ _ _ _ _ _ _ _ _ _ _ _ _ _ _ _ _ _ _ _ _ _ _ _ _ _ _ _ _ _ _ _ _ _ _ _ _ _ _ _ _ _ _ _ _ _ _ _ _ _ _ _ _ _ _ _ _ _ _ _ _ _ _ _ _ _ _ _ _ _ _ _ _ _ _ _ _ _ _ _ _ _ _ _ _ _ _ _ _ _ _ _ _ _ _ _ _ _ _ _ _ _ _ _ _ _ _ _ _ _ _ _ _ _ _ _ _ _ _ _ _ _ _ _ _ _ _ _ _ _ _ _ _ _ _ _ _ _ _ _ _ _ _ _ _ _ _ _
  · obtain ⟨pa, pc, hv⟩ := own_form hrow
    subst hv
    have hL00 : L.length = 0 := by omega
    rw [hL00]
    have hsort := AnyM.slices_Sort_int_none Ybaz.sortI pa pc w
    have hcomp := Any.slices_Compact_int_empty Ybaz.compI pa pc w
    change Calls Ybaz.prog 4 _ _ _ at hsort
    change Calls Ybaz.prog 5 _ _ _ at hcomp
    clear hrow
    refine wp_seq_k fun K1 hK1 => ?_
    have hK1' : Aside (∀ (a : Act) (w : World), _ → K1 a w) := hK1
    clear hK1
    go_wp2_with (go_at_call 4; refine hsort.mono ?_; rintro e w1 ⟨rfl, rfl⟩)
    clear hsort
    refine hK1'.out _ _ ?_
    clear hK1'
    refine wp_seq_k fun K2 hK2 => ?_
    have hK2' : Aside (∀ (a : Act) (w : World), _ → K2 a w) := hK2
    clear hK2
    go_wp2_with (go_at_call 5; refine hcomp.mono ?_; rintro e w2 ⟨rfl, rfl⟩)
    clear hcomp
    refine hK2'.out _ _ ?_
    clear hK2'
    refine wp_seq_k fun K3 hK3 => ?_
    have hK3' : Aside (∀ (a : Act) (w : World), _ → K3 a w) := hK3
    clear hK3
    go_wp2
    refine hK3'.out _ _ ?_
    clear hK3'
    refine wp_seq_k fun K4 hK4 => ?_
    have hK4' : Aside (∀ (a : Act) (w : World), _ → K4 a w) := hK4
    clear hK4
    go_wp2
    refine hK4'.out _ _ ?_
    clear hK4'
    have hb12 : RowKit.Below B w2 (w2.alloc (.cells #[.int .i64 0] 3)) := (RowKit.Below.refl _ _).alloc hB _
    have hnew : (w2.alloc (.cells #[.int .i64 0] 3)).heap[w2.heap.size]? = some (.cells #[.int .i64 0] 3 (0, 0)) := by rw [alloc_at, if_pos rfl]
    exact law_C a0 len0 cap0 w2.heap.size 1 (1 + p) F M [0] lo U w0 _ B (hb.trans hb12) (Nat.le_trans hB hb12.size) (hA.out.1.below hb12) hl0 hlo hU ⟨by simp, fun j hj => by simp at hj; subst hj; rw [Joins.cell_of_block hnew]; rfl, by simp, by simp, by simp, by simp⟩ (by omega) (by omega) R hAR.out _ _ _ _ _ _ _ _ _ _ _ _ _ _ _ _ _ _ _ _ _ _ _ _ _ _ _ _ _ _ _ _ _ _ _ _ _ _ _ _ _ _ _ _ _ _ _ _ _ _ _ _ _ _ _ _ _ _ _ _ _ _ _ _ _ _ _ _ _ _ _ _ _ _ _ _ _ _ _ _ _ _ _ _ _ _ _ _ _ _ _ _ _ _ _ _ _ _ _ _ _ _ _ _ _ _ _ _ _ _ _ _ _ _ _ _ _ _ _ _ _ _ _ _ _ _ _ _ _ _ _ _ _ _ _ _ _ _ _ _ _ _ _ _ _ _ _ _ _ _ _ _ _ _ _ _ _ _ _ _ _ _ _ _ _ _ _ _ _ _ _ _ _ _ _ _ _ _ _ _ _ _ _ _ _ _ _ _ _ _ _ _ _ _ _ _ _ _ _ _ _ _
end Go.Proofs.YbulkcemcGreat
