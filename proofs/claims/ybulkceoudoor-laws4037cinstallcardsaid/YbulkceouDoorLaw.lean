/-
  LawS4037CInstall: THE LAW's WALK, whole (seat b4037aD).
-/
import Derived.Test.YbulkceouDoorLawA2
import Derived.Laws.CopyOwn
namespace Go.Proofs.YbulkceouDoor
open Go.RowKit Go.Shelf

theorem size9 : (Ybad.prog.info? 9).map (·.size) = some 1 := by kernel_rfl

/-- The mask of the lowest n bits. -/
theorem mask_word (n : Nat) (hn : n < 64) : IntKind.u64.wrap (IntKind.u64.wrap (2 ^ n) - 1) = ((2 ^ n - 1 : Nat) : Int) := by
  have h2 : 2 ^ n < 2 ^ 64 := Nat.pow_lt_pow_right (by omega) hn
  have h1 : 0 < 2 ^ n := Nat.two_pow_pos n
  have e : (2 : Int) ^ n = ((2 ^ n : Nat) : Int) := by simp
  rw [e, IntKind.wrap_u64, IntKind.wrap_u64]
  generalize 2 ^ n = z at *
  omega

noncomputable def lA1 : Code := (Ybad.f3.body.bind (fromR 6)).getD .skip

set_option linter.unusedSimpArgs false in
set_option maxRecDepth 100000 in
set_option maxHeartbeats 2000000 in
theorem law_A1 (a0 : Option Addr) (l0 c0 n self P C J : Nat) (tn tm : Int) (nms ps : Nat → ByteArray) (pa : Option Addr) (L pc : Nat) (w : World)
    (hn0 : 0 < n) (hn : n ≤ 64) (hnl : n ≤ l0) (hself : self ≤ 255) (hP : P < 2 ^ 64) (hC : C < 2 ^ 64) (hJ : J < 2 ^ 64) (hL1 : L ≤ 1024) (hN0 : 0 < w.heap.size)
    (hB : Aside ((∀ j, j < l0 → ∃ bb oo, a0 = some ⟨bb, oo, none⟩ ∧ bb < w.heap.size ∧ w.cell? ⟨bb, oo + j, none⟩ = some (.string (nms j))) ∧ (∀ j, j < L → ∃ bb oo, pa = some ⟨bb, oo, none⟩ ∧ bb < w.heap.size ∧ w.cell? ⟨bb, oo + j, none⟩ = some (.string (ps j))) ∧ TabAt 0 Lib.deBruijn64tab w))
    (c8 c9 c10 c11 c12 c13 c14 c15 c16 c18 c19 c20 c21 c22 c23 c24 c25 c26 c27 c28 c29 c30 c31 c32 c33 c34 c35 c36 c37 c38 c39 c40 c41 c42 c43 c44 c45 c46 c47 c48 c49 c50 c51 c52 c53 c54 c55 c56 c57 c58 c59 c60 c61 c62 c63 c64 c65 c66 c67 c68 c69 c70 c71 c72 c73 c74 c75 c76 c77 c78 c79 c80 c81 c82 c83 c84 c85 c86 c87 c88 c89 c90 c91 c92 c93 c94 c95 c96 c97 c98 c99 c100 c101 c102 c103 c104 c105 c106 c107 c108 c109 c110 c111 c112 c113 c114 c115 c116 c117 c118 c119 c120 c121 c122 c123 c124 c125 c126 c127 c128 c129 c130 c131 c132 c133 c134 c135 c136 c137 c138 c139 c140 c141 c142 c143 c144 c145 c146 c147 c148 c149 c150 c151 c152 c153 c154 c155 c156 c157 c158 c159 c160 c161 c162 c163 c164 c165 c166 c167 c168 c169 c170 c171 c172 c173 c174 c175 c176 c177 c178 c179 c180 c181 c182 c183 c184 c185 c186 c187 c188 c189 c190 c191 c192 c193 c194 c195 c196 c197 c198 c199 c200 c201 c202 c203 c204 c205 c206 c207 c208 c209 c210 c211 c212 c213 c214 c215 c216 c217 c218 c219 c220 c221 c222 c223 c224 c225 c226 c227 c228 c229 c230 c231 c232 c233 c234 c235 c236 c237 c238 c239 c240 c241 c242 c243 c244 c245 c246 c247 c248 c249 c250 c251 c252 c253 c254 c255 c256 c257 c258 c259 c260 c261 c262 c263 c264 c265 c266 c267 c268 c269 c270 c271 c272 c273 c274 c275 c276 c277 c278 c279 c280 c281 c282 c283 c284 c285 c286 c287 c288 c289 c290 c291 c292 c293 c294 c295 c296 c297 c298 c299 c300 c301 c302 c303 c304 c305 c306 c307 c308 c309 c310 c311 c312 c313 : Value) :
    lA1.wp Ybad.prog (bodyPost Ybad.prog Ybad.f3 fun e w' => e = .returned (.bool true) ∧ Below w.heap.size w w') ⟨#[.slice a0 l0 c0, .int .u8 self, .int .u64 P, .int .u64 C, .int .u64 J, .int .u64 tn, .int .i64 tm, .slice pa L pc, c8, c9, c10, c11, c12, c13, c14, c15, c16, .int .i64 n, c18, c19, c20, c21, c22, c23, c24, c25, c26, c27, c28, c29, c30, c31, c32, c33, c34, c35, c36, c37, c38, c39, c40, c41, c42, c43, c44, c45, c46, c47, c48, c49, c50, c51, c52, c53, c54, c55, c56, c57, c58, c59, c60, c61, c62, c63, c64, c65, c66, c67, c68, c69, c70, c71, c72, c73, c74, c75, c76, c77, c78, c79, c80, c81, c82, c83, c84, c85, c86, c87, c88, c89, c90, c91, c92, c93, c94, c95, c96, c97, c98, c99, c100, c101, c102, c103, c104, c105, c106, c107, c108, c109, c110, c111, c112, c113, c114, c115, c116, c117, c118, c119, c120, c121, c122, c123, c124, c125, c126, c127, c128, c129, c130, c131, c132, c133, c134, c135, c136, c137, c138, c139, c140, c141, c142, c143, c144, c145, c146, c147, c148, c149, c150, c151, c152, c153, c154, c155, c156, c157, c158, c159, c160, c161, c162, c163, c164, c165, c166, c167, c168, c169, c170, c171, c172, c173, c174, c175, c176, c177, c178, c179, c180, c181, c182, c183, c184, c185, c186, c187, c188, c189, c190, c191, c192, c193, c194, c195, c196, c197, c198, c199, c200, c201, c202, c203, c204, c205, c206, c207, c208, c209, c210, c211, c212, c213, c214, c215, c216, c217, c218, c219, c220, c221, c222, c223, c224, c225, c226, c227, c228, c229, c230, c231, c232, c233, c234, c235, c236, c237, c238, c239, c240, c241, c242, c243, c244, c245, c246, c247, c248, c249, c250, c251, c252, c253, c254, c255, c256, c257, c258, c259, c260, c261, c262, c263, c264, c265, c266, c267, c268, c269, c270, c271, c272, c273, c274, c275, c276, c277, c278, c279, c280, c281, c282, c283, c284, c285, c286, c287, c288, c289, c290, c291, c292, c293, c294, c295, c296, c297, c298, c299, c300, c301, c302, c303, c304, c305, c306, c307, c308, c309, c310, c311, c312, c313], []⟩ w := by
  conv => arg 2; whnf
  obtain ⟨i0, hi, hz0, hz1, hz2⟩ := info_parts info9
  have hmk := run_make (P := Ybad.prog) w 22 9 i0 _ Ybad.underlying22 hi hz0 .i64 .i64 n n (by omega) (Int.le_refl _) (by rw [hz2]; omega) (by omega)
  rw [hz1, Nat.mul_one] at hmk
  simp only [Int.toNat_natCast] at hmk
  obtain ⟨zc, hzc⟩ : ∃ zc, madeCells (Value.string ⟨#[]⟩).cells n = zc := ⟨_, rfl⟩
  have hzs : zc.size = n := by rw [← hzc]; exact size_madeCells _ _
  rw [hzc] at hmk
  clear hi hz0 hz1 hz2 hzc
  refine wp_seq_k fun K6 hK6 => ?_
  have hK6' : Aside (∀ (a : Act) (w : World), _ → K6 a w) := hK6
  clear hK6
  go_wp2
  refine hK6'.out _ _ ?_
  clear hK6'
  clear hmk
  obtain ⟨h1, h2, h3⟩ := hB.out
  obtain ⟨bb, oo, rfl, hbb, _⟩ := h1 0 (by omega)
  have hsrc : ∀ j, j < l0 → w.cell? ⟨bb, oo + j, none⟩ = some (.string (nms j)) := fun j hj => by
    obtain ⟨b', o', e1, _, e3⟩ := h1 j hj
    cases e1
    exact e3
  clear h1
  obtain ⟨W1, hW1⟩ : ∃ W1, w.alloc (.cells zc 9) = W1 := ⟨_, rfl⟩
  have hb1 : Below w.heap.size w W1 := by rw [← hW1]; exact (Below.refl _ _).alloc (Nat.le_refl _) _
  have hg1 : W1.heap[w.heap.size]? = some (.cells zc 9 (0, 0)) := by rw [← hW1, alloc_at, if_pos rfl]
  rw [hW1]
  clear hW1
  obtain ⟨cs, hcsE⟩ : ∃ cs : List Value, cs = (List.range n).map fun k => Value.string (nms k) := ⟨_, rfl⟩
  have hcl : cs.length = n := by rw [hcsE]; simp
  have hcget : ∀ j, j < n → cs[j]? = some (.string (nms j)) := fun j hj => by rw [hcsE]; simp [hj]
  have hcone : ∀ v ∈ cs, v.oneCell' = true := fun v hv => by rw [hcsE] at hv; simp at hv; obtain ⟨k, _, rfl⟩ := hv; rfl
  clear hcsE
  refine wp_seq_k fun K7 hK7 => ?_
  have hK7' : Aside (∀ (a : Act) (w : World), _ → K7 a w) := hK7
  clear hK7
  have hmin : cs.length = Nat.min l0 n := by rw [hcl]; exact (Nat.min_eq_right hnl).symm
  have hsrc1 : ∀ j v, cs[j]? = some v → W1.cell? ((⟨bb, oo, none⟩ : Addr).add j) = some v := fun j v hj => by
    have hjn : j < n := by rw [← hcl]; exact (List.getElem?_eq_some_iff.1 hj).1
    rw [Addr.add_mid, hb1.cell (p := ⟨bb, oo + j, none⟩) hbb, hsrc j (by omega), ← hj, hcget j hjn]
  have hcp := run_copy_row (P := Ybad.prog) W1 22 22 3 9 w.heap.size 0 n n ⟨bb, oo, none⟩ l0 c0 zc 9 cs Ybad.underlying22 size9 hg1 hmin hsrc1 (by omega) hcone
  obtain ⟨W2, hW2⟩ : ∃ W2, W1.setRow w.heap.size (zc.toList.take 0 ++ cs ++ zc.toList.drop (0 + cs.length)).toArray = W2 := ⟨_, rfl⟩
  have hg2 : W2.heap[w.heap.size]? = some (.cells (zc.toList.take 0 ++ cs ++ zc.toList.drop (0 + cs.length)).toArray 9 (0, 0)) := by rw [← hW2]; exact setRow_heap W1 _ zc _ 9 _ hg1
  have hb2 : Below w.heap.size w W2 := by rw [← hW2]; exact below_setRow hb1 (Nat.le_refl _) _
  have hs2 : w.heap.size < W2.heap.size := (Array.getElem?_eq_some_iff.1 hg2).1
  have hnm2 : ∀ k, k < n → W2.cell? ⟨w.heap.size, k, none⟩ = some (.string (nms k)) := fun k hk => by
    rw [Joins.cell_of_block hg2]
    simp [List.getElem?_append_left (show k < cs.length by omega), hcget k hk]
  rw [hW2] at hcp
  clear hW2 hg2 hsrc1 hsrc hcget hcone hmin hg1 hb1
  go_wp2
  refine hK7'.out _ _ ?_
  clear hK7' hcp
  refine wp_seq_k fun K8 hK8 => ?_
  have hK8' : Aside (∀ (a : Act) (w : World), _ → K8 a w) := hK8
  clear hK8
  go_wp2
  refine hK8'.out _ _ ?_
  clear hK8'
  by_cases hlt : n < 64
  · have hlt' : (n : Int) < 64 := by omega
    have hmask := mask_word n hlt
    refine wp_seq_k fun K9 hK9 => ?_
    have hK9' : Aside (∀ (a : Act) (w : World), _ → K9 a w) := hK9
    clear hK9
    go_wp2
    refine hK9'.out _ _ ?_
    clear hK9'
    exact law_A2 w.heap.size n w.heap.size self P C J (2 ^ n - 1) L pc tn tm nms ps pa w W2 hn0 hn hself hP hC hJ rfl hL1 hN0 (by omega) (by omega) (tab_below h3 hb2 hN0) hnm2 (fun j hj => by obtain ⟨b', o', e1, e2, e3⟩ := h2 j hj; exact ⟨b', o', e1, e2, (hb2.cell (p := ⟨b', o' + j, none⟩) e2).trans e3⟩) hb2 _ _ _ _ _ _ _ _ _ _ _ _ _ _ _ _ _ _ _ _ _ _ _ _ _ _ _ _ _ _ _ _ _ _ _ _ _ _ _ _ _ _ _ _ _ _ _ _ _ _ _ _ _ _ _ _ _ _ _ _ _ _ _ _ _ _ _ _ _ _ _ _ _ _ _ _ _ _ _ _ _ _ _ _ _ _ _ _ _ _ _ _ _ _ _ _ _ _ _ _ _ _ _ _ _ _ _ _ _ _ _ _ _ _ _ _ _ _ _ _ _ _ _ _ _ _ _ _ _ _ _ _ _ _ _ _ _ _ _ _ _ _ _ _ _ _ _ _ _ _ _ _ _ _ _ _ _ _ _ _ _ _ _ _ _ _ _ _ _ _ _ _ _ _ _ _ _ _ _ _ _ _ _ _ _ _ _ _ _ _ _ _ _ _ _ _ _ _ _ _ _ _ _ _ _ _ _ _ _ _ _ _ _ _ _ _ _ _ _ _ _ _ _ _ _ _ _ _ _ _ _ _ _ _ _ _ _ _ _ _ _ _ _ _ _ _ _ _ _ _ _ _ _ _ _ _ _ _ _ _ _ _ _ _ _ _ _ _ _ _ _ _ _ _ _ _ _ _ _ _ _ _ _ _ _ _ _ _ _ _ _ _ _ _ _ _ _ _ _ _ _ _ _ _
  · obtain rfl : n = 64 := by omega
    refine wp_seq_k fun K9 hK9 => ?_
    have hK9' : Aside (∀ (a : Act) (w : World), _ → K9 a w) := hK9
    clear hK9
    go_wp2
    refine hK9'.out _ _ ?_
    clear hK9'
    exact law_A2 w.heap.size 64 w.heap.size self P C J 18446744073709551615 L pc tn tm nms ps pa w W2 hn0 hn hself hP hC hJ rfl hL1 hN0 (by omega) (by omega) (tab_below h3 hb2 hN0) hnm2 (fun j hj => by obtain ⟨b', o', e1, e2, e3⟩ := h2 j hj; exact ⟨b', o', e1, e2, (hb2.cell (p := ⟨b', o' + j, none⟩) e2).trans e3⟩) hb2 _ _ _ _ _ _ _ _ _ _ _ _ _ _ _ _ _ _ _ _ _ _ _ _ _ _ _ _ _ _ _ _ _ _ _ _ _ _ _ _ _ _ _ _ _ _ _ _ _ _ _ _ _ _ _ _ _ _ _ _ _ _ _ _ _ _ _ _ _ _ _ _ _ _ _ _ _ _ _ _ _ _ _ _ _ _ _ _ _ _ _ _ _ _ _ _ _ _ _ _ _ _ _ _ _ _ _ _ _ _ _ _ _ _ _ _ _ _ _ _ _ _ _ _ _ _ _ _ _ _ _ _ _ _ _ _ _ _ _ _ _ _ _ _ _ _ _ _ _ _ _ _ _ _ _ _ _ _ _ _ _ _ _ _ _ _ _ _ _ _ _ _ _ _ _ _ _ _ _ _ _ _ _ _ _ _ _ _ _ _ _ _ _ _ _ _ _ _ _ _ _ _ _ _ _ _ _ _ _ _ _ _ _ _ _ _ _ _ _ _ _ _ _ _ _ _ _ _ _ _ _ _ _ _ _ _ _ _ _ _ _ _ _ _ _ _ _ _ _ _ _ _ _ _ _ _ _ _ _ _ _ _ _ _ _ _ _ _ _ _ _ _ _ _ _ _ _ _ _ _ _ _ _ _ _ _ _ _ _ _ _ _ _ _ _ _ _ _ _ _ _ _ _ _

set_option linter.unusedSimpArgs false in
set_option maxRecDepth 100000 in
set_option maxHeartbeats 2000000 in
theorem law_walk (a0 : Option Addr) (l0 c0 : Nat) (self P C J : Nat) (tn tm : Int) (nms ps : Nat → ByteArray) (pa : Option Addr) (L pc : Nat) (w : World)
    (hself : self ≤ 255) (hP : P < 2 ^ 64) (hC : C < 2 ^ 64) (hJ : J < 2 ^ 64) (hl0 : (l0 : Int) ≤ 9223372036854775807) (hL : (L : Int) ≤ 9223372036854775807) (hN0 : 0 < w.heap.size)
    (hT : TabAt 0 Lib.deBruijn64tab w)
    (hnames : ∀ j, j < l0 → ∃ bb oo, a0 = some ⟨bb, oo, none⟩ ∧ bb < w.heap.size ∧ w.cell? ⟨bb, oo + j, none⟩ = some (.string (nms j)))
    (hpre : ∀ j, j < L → ∃ bb oo, pa = some ⟨bb, oo, none⟩ ∧ bb < w.heap.size ∧ w.cell? ⟨bb, oo + j, none⟩ = some (.string (ps j))) :
    Calls Ybad.prog 3 #[.slice a0 l0 c0, .int .u8 self, .int .u64 P, .int .u64 C, .int .u64 J, .int .u64 tn, .int .i64 tm, .slice pa L pc] w fun e w' => e = .returned (.bool true) ∧ Below w.heap.size w w' := by
  by_cases hz : l0 = 0
  · subst hz
    clear hnames hpre hT
    go_enter Ybad.func3, Ybad.ntmps3
    go_wp2
    go_ret
    exact ⟨rfl, Below.refl _ _⟩
  by_cases hL1 : L ≤ 1024
  case neg =>
    have hz' : ((l0 : Int) == 0) = false := by simp; omega
    have hL2 : (1024 : Int) < (L : Int) := by omega
    clear hnames hpre hT
    go_enter Ybad.func3, Ybad.ntmps3
    go_wp2
    go_ret
    exact ⟨rfl, Below.refl _ _⟩
  have hz' : ((l0 : Int) == 0) = false := by simp; omega
  have hL2 : (L : Int) ≤ 1024 := by omega
  have hB : Aside ((∀ j, j < l0 → ∃ bb oo, a0 = some ⟨bb, oo, none⟩ ∧ bb < w.heap.size ∧ w.cell? ⟨bb, oo + j, none⟩ = some (.string (nms j))) ∧ (∀ j, j < L → ∃ bb oo, pa = some ⟨bb, oo, none⟩ ∧ bb < w.heap.size ∧ w.cell? ⟨bb, oo + j, none⟩ = some (.string (ps j))) ∧ TabAt 0 Lib.deBruijn64tab w) := ⟨hnames, hpre, hT⟩
  clear hnames hpre hT
  go_enter Ybad.func3, Ybad.ntmps3
  refine wp_seq_k fun Ka hKa => ?_
  have hKa' : Aside (∀ (a : Act) (w : World), _ → Ka a w) := hKa
  clear hKa
  go_wp2
  refine hKa'.out _ _ ?_
  clear hKa'
  refine wp_seq_k fun Kb hKb => ?_
  have hKb' : Aside (∀ (a : Act) (w : World), _ → Kb a w) := hKb
  clear hKb
  go_wp2
  refine hKb'.out _ _ ?_
  clear hKb'
  refine wp_seq_k fun Kc hKc => ?_
  have hKc' : Aside (∀ (a : Act) (w : World), _ → Kc a w) := hKc
  clear hKc
  go_wp2
  refine hKc'.out _ _ ?_
  clear hKc'
  by_cases h64 : l0 ≤ 64
  · have hl64 : (l0 : Int) ≤ 64 := by omega
    refine wp_seq_k fun Kd hKd => ?_
    have hKd' : Aside (∀ (a : Act) (w : World), _ → Kd a w) := hKd
    clear hKd
    go_wp2
    refine hKd'.out _ _ ?_
    clear hKd'
    exact law_A1 a0 l0 c0 l0 self P C J tn tm nms ps pa L pc w (by omega) h64 (Nat.le_refl _) hself hP hC hJ hL1 hN0 hB _ _ _ _ _ _ _ _ _ _ _ _ _ _ _ _ _ _ _ _ _ _ _ _ _ _ _ _ _ _ _ _ _ _ _ _ _ _ _ _ _ _ _ _ _ _ _ _ _ _ _ _ _ _ _ _ _ _ _ _ _ _ _ _ _ _ _ _ _ _ _ _ _ _ _ _ _ _ _ _ _ _ _ _ _ _ _ _ _ _ _ _ _ _ _ _ _ _ _ _ _ _ _ _ _ _ _ _ _ _ _ _ _ _ _ _ _ _ _ _ _ _ _ _ _ _ _ _ _ _ _ _ _ _ _ _ _ _ _ _ _ _ _ _ _ _ _ _ _ _ _ _ _ _ _ _ _ _ _ _ _ _ _ _ _ _ _ _ _ _ _ _ _ _ _ _ _ _ _ _ _ _ _ _ _ _ _ _ _ _ _ _ _ _ _ _ _ _ _ _ _ _ _ _ _ _ _ _ _ _ _ _ _ _ _ _ _ _ _ _ _ _ _ _ _ _ _ _ _ _ _ _ _ _ _ _ _ _ _ _ _ _ _ _ _ _ _ _ _ _ _ _ _ _ _ _ _ _ _ _ _ _ _ _ _ _ _ _ _ _ _ _ _ _ _ _ _ _ _ _ _ _ _ _ _ _ _ _ _ _ _ _ _ _ _ _ _ _ _ _ _ _ _ _ _
  · have hl64 : (64 : Int) < (l0 : Int) := by omega
    refine wp_seq_k fun Kd hKd => ?_
    have hKd' : Aside (∀ (a : Act) (w : World), _ → Kd a w) := hKd
    clear hKd
    go_wp2
    refine hKd'.out _ _ ?_
    clear hKd'
    exact law_A1 a0 l0 c0 64 self P C J tn tm nms ps pa L pc w (by omega) (by omega) (by omega) hself hP hC hJ hL1 hN0 hB _ _ _ _ _ _ _ _ _ _ _ _ _ _ _ _ _ _ _ _ _ _ _ _ _ _ _ _ _ _ _ _ _ _ _ _ _ _ _ _ _ _ _ _ _ _ _ _ _ _ _ _ _ _ _ _ _ _ _ _ _ _ _ _ _ _ _ _ _ _ _ _ _ _ _ _ _ _ _ _ _ _ _ _ _ _ _ _ _ _ _ _ _ _ _ _ _ _ _ _ _ _ _ _ _ _ _ _ _ _ _ _ _ _ _ _ _ _ _ _ _ _ _ _ _ _ _ _ _ _ _ _ _ _ _ _ _ _ _ _ _ _ _ _ _ _ _ _ _ _ _ _ _ _ _ _ _ _ _ _ _ _ _ _ _ _ _ _ _ _ _ _ _ _ _ _ _ _ _ _ _ _ _ _ _ _ _ _ _ _ _ _ _ _ _ _ _ _ _ _ _ _ _ _ _ _ _ _ _ _ _ _ _ _ _ _ _ _ _ _ _ _ _ _ _ _ _ _ _ _ _ _ _ _ _ _ _ _ _ _ _ _ _ _ _ _ _ _ _ _ _ _ _ _ _ _ _ _ _ _ _ _ _ _ _ _ _ _ _ _ _ _ _ _ _ _ _ _ _ _ _ _ _ _ _ _ _ _ _ _ _ _ _ _ _ _ _ _ _ _ _ _ _ _ _
end Go.Proofs.YbulkceouDoor
