/-
  LawS4037CInstall: the law from the events that it hands in to the call of install (seat b4037aD).
-/
import Derived.Test.YbulkceouDoorLawC
namespace Go.Proofs.YbulkceouDoor
open Go.RowKit Go.Shelf

/-- A cell of a row of one's own, from its list. -/
theorem own_cell {w : World} {base e n c : Nat} {a : Option Addr} {xs : List Value} (h : w.ownsRow base e 1 (.slice a n c) n xs) (j : Nat) (u : Value) (hj : xs[j]? = some u) : ∃ g, a = some ⟨g, 0, none⟩ ∧ g < w.heap.size ∧ w.cell? ⟨g, j, none⟩ = some u := by
  have hlt := (List.getElem?_eq_some_iff.1 hj).1
  have hl := h.1
  rcases h.2 with ⟨e1, e2⟩ | ⟨g, cp, cur, e1, _, hg, _⟩
  · subst e2; omega
  · injection e1 with h1 h2 h3
    subst h1 h3
    refine ⟨g, rfl, (Array.getElem?_eq_some_iff.1 hg).1, ?_⟩
    rw [h.cellAt j (by omega), hj]

theorem own_slice {w : World} {base e size n : Nat} {v : Value} {xs : List Value} (h : w.ownsRow base e size v n xs) : ∃ a c, v = .slice a n c := by
  rcases h.2 with ⟨e1, e2⟩ | ⟨g, cp, cur, e1, _⟩
  · exact ⟨none, 0, by rw [e1, e2]⟩
  · exact ⟨_, _, e1⟩

noncomputable def lB : Code := (Ybad.f3.body.bind (fromR 28)).getD .skip

set_option maxRecDepth 100000 in
set_option maxHeartbeats 1000000 in
theorem law_B (N n nb s pm cm jm tb L pc nwb pb chb rb : Nat) (tn tm : Int) (nm ps : Nat → ByteArray) (pa : Option Addr) (cs : Array Value) (u19 u20 u23 u24 : Value) (w0 w : World)
    (hn : n ≤ 64) (hs : s < n) (hpm : pm < 2 ^ n) (hcm : cm < 2 ^ n) (hjp : ∀ i, i < 64 → jm.testBit i = true → pm.testBit i = true) (hL : L ≤ 1024) (hN0 : 0 < N)
    (hNp : N ≤ pb) (hNr : N ≤ rb) (hp : pb < w.heap.size) (hc : chb < w.heap.size) (hr : rb < w.heap.size) (hnb : nb < w.heap.size) (htb : tb < w.heap.size) (hnw : nwb < w.heap.size)
    (hpc : chb ≠ pb) (hpr : rb ≠ pb) (hpn : nb ≠ pb) (hcr : chb ≠ rb) (hnr : nb ≠ rb) (htp : tb ≠ pb) (htr : tb ≠ rb) (hwp : nwb ≠ pb) (hwr : nwb ≠ rb)
    (hT : TabAt 0 Lib.deBruijn64tab w)
    (hpb : w.heap[pb]? = some (.cells cs 53 (0, 0))) (k0 : cs[0]? = some (.iface 33 (.pointer (some ⟨rb, 0, none⟩)))) (k1 : cs[1]? = some (.slice (some ⟨nb, 0, none⟩) n n)) (k2 : cs[2]? = some (.int .i64 s))
    (k19 : cs[19]? = some u19) (k20 : cs[20]? = some u20) (k21 : cs[21]? = some (.int .u64 pm)) (k22 : cs[22]? = some (.int .u64 0)) (k23 : cs[23]? = some u23) (k24 : cs[24]? = some u24)
    (hrb : w.heap[rb]? = some (.cells #[.slice none 0 0, .int .i64 0] 36 (0, 0)))
    (q2 : w.cell? ⟨chb, 2, none⟩ = some (.int .u64 tn)) (q3 : w.cell? ⟨chb, 3, none⟩ = some (.int .i64 tm))
    (q4 : w.cell? ⟨chb, 4, none⟩ = some (.int .u64 cm)) (q5 : w.cell? ⟨chb, 5, none⟩ = some (.int .u64 0))
    (q6 : w.cell? ⟨chb, 6, none⟩ = some (.int .u64 jm)) (q7 : w.cell? ⟨chb, 7, none⟩ = some (.int .u64 0))
    (hnm : ∀ k, k < n → w.cell? ⟨nb, k, none⟩ = some (.string (nm k)))
    (t0 : w.cell? ⟨tb, 0, none⟩ = some (.int .u64 tn)) (t1 : w.cell? ⟨tb, 1, none⟩ = some (.int .i64 tm))
    (n0 : w.cell? ⟨nwb, 0, none⟩ = some (.int .u64 cm)) (n1 : w.cell? ⟨nwb, 1, none⟩ = some (.int .u64 0))
    (hpre : ∀ j, j < L → ∃ bb oo, pa = some ⟨bb, oo, none⟩ ∧ bb < N ∧ w.cell? ⟨bb, oo + j, none⟩ = some (.string (ps j)))
    (Hfin : Aside (Below N w0 w)) (c0 c1 c4 c5 c6 c8 c9 c10 c11 c12 c13 c14 c15 c16 c19 c20 c22 c24 c26 c30 c31 c32 c33 c34 c35 c36 c37 c38 c39 c40 c41 c42 c43 c44 c45 c46 c47 c48 c49 c50 c51 c52 c53 c54 c55 c56 c57 c58 c59 c60 c61 c62 c63 c64 c65 c66 c67 c68 c69 c70 c71 c72 c73 c74 c75 c76 c77 c78 c79 c80 c81 c82 c83 c84 c85 c86 c87 c88 c89 c90 c91 c92 c93 c94 c95 c96 c97 c98 c99 c100 c101 c102 c103 c104 c105 c106 c107 c108 c109 c110 c111 c112 c113 c114 c115 c116 c117 c118 c119 c120 c121 c122 c123 c124 c125 c126 c127 c128 c129 c130 c131 c132 c133 c134 c135 c136 c137 c138 c139 c140 c141 c142 c143 c144 c145 c146 c147 c148 c149 c150 c151 c152 c153 c154 c155 c156 c157 c158 c159 c160 c161 c162 c163 c164 c165 c166 c167 c168 c169 c170 c171 c172 c173 c174 c175 c176 c177 c178 c179 c180 c181 c182 c183 c184 c185 c186 c187 c188 c189 c190 c191 c192 c193 c194 c195 c196 c197 c198 c199 c200 c201 c202 c203 c204 c205 c206 c207 c208 c209 c210 c211 c212 c213 c214 c215 c216 c217 c218 c219 c220 c221 c222 c223 c224 c225 c226 c227 c228 c229 c230 c231 c232 c233 c234 c235 c236 c237 c238 c239 c240 c241 c242 c243 c244 c245 c246 c247 c248 c249 c250 c251 c252 c253 c254 c255 c256 c257 c258 c259 c260 c261 c262 c263 c264 c265 c266 c267 c268 c269 c270 c271 c272 c273 c274 c275 c276 c277 c278 c279 c280 c281 c282 c283 c284 c285 c286 c287 c288 c289 c290 c291 c292 c293 c294 c295 c296 c297 c298 c299 c300 c301 c302 c303 c304 c305 c306 c307 c308 c309 c310 c311 c312 c313 : Value) :
    lB.wp Ybad.prog (bodyPost Ybad.prog Ybad.f3 fun e w' => e = .returned (.bool true) ∧ Below N w0 w') ⟨#[c0, c1, .int .u64 pm, .int .u64 cm, c4, c5, c6, .slice pa L pc, c8, c9, c10, c11, c12, c13, c14, c15, c16, .int .i64 n, .slice (some ⟨nb, 0, none⟩) n n, c19, c20, .pointer (some ⟨nwb, 0, none⟩), c22, .pointer (some ⟨tb, 0, none⟩), c24, .pointer (some ⟨chb, 0, none⟩), c26, .pointer (some ⟨rb, 0, none⟩), .int .i64 s, .pointer (some ⟨pb, 0, none⟩), c30, c31, c32, c33, c34, c35, c36, c37, c38, c39, c40, c41, c42, c43, c44, c45, c46, c47, c48, c49, c50, c51, c52, c53, c54, c55, c56, c57, c58, c59, c60, c61, c62, c63, c64, c65, c66, c67, c68, c69, c70, c71, c72, c73, c74, c75, c76, c77, c78, c79, c80, c81, c82, c83, c84, c85, c86, c87, c88, c89, c90, c91, c92, c93, c94, c95, c96, c97, c98, c99, c100, c101, c102, c103, c104, c105, c106, c107, c108, c109, c110, c111, c112, c113, c114, c115, c116, c117, c118, c119, c120, c121, c122, c123, c124, c125, c126, c127, c128, c129, c130, c131, c132, c133, c134, c135, c136, c137, c138, c139, c140, c141, c142, c143, c144, c145, c146, c147, c148, c149, c150, c151, c152, c153, c154, c155, c156, c157, c158, c159, c160, c161, c162, c163, c164, c165, c166, c167, c168, c169, c170, c171, c172, c173, c174, c175, c176, c177, c178, c179, c180, c181, c182, c183, c184, c185, c186, c187, c188, c189, c190, c191, c192, c193, c194, c195, c196, c197, c198, c199, c200, c201, c202, c203, c204, c205, c206, c207, c208, c209, c210, c211, c212, c213, c214, c215, c216, c217, c218, c219, c220, c221, c222, c223, c224, c225, c226, c227, c228, c229, c230, c231, c232, c233, c234, c235, c236, c237, c238, c239, c240, c241, c242, c243, c244, c245, c246, c247, c248, c249, c250, c251, c252, c253, c254, c255, c256, c257, c258, c259, c260, c261, c262, c263, c264, c265, c266, c267, c268, c269, c270, c271, c272, c273, c274, c275, c276, c277, c278, c279, c280, c281, c282, c283, c284, c285, c286, c287, c288, c289, c290, c291, c292, c293, c294, c295, c296, c297, c298, c299, c300, c301, c302, c303, c304, c305, c306, c307, c308, c309, c310, c311, c312, c313], []⟩ w := by
  conv => arg 2; whnf
  have hins : Aside (∀ (wr : World) (cur : Array Value), Below w.heap.size w wr → wr.heap[w.heap.size]? = some (.cells cur 62 (0, 0)) → cur.size = L * 15 → ∃ y, y < 2 ^ 64 ∧ (∀ i, i < 64 → y.testBit i = (pm.testBit i && !cm.testBit i)) ∧ Calls Ybad.prog 4 #[.pointer (some ⟨pb, 0, none⟩), .slice (some ⟨w.heap.size, 0, none⟩) L L, .pointer (some ⟨chb, 0, none⟩)] wr fun e w' => ∃ v, e = .returned v ∧
      Installed N w.heap.size pb chb rb n s cm L tn tm nm cur.toList ((mem y).map fun (k : Nat) => Value.int .i64 k) wr v w') := by
    intro wr cur hb hcur hcs
    have hlt : w.heap.size < wr.heap.size := (Array.getElem?_eq_some_iff.1 hcur).1
    exact install N w.heap.size pb chb rb nb n s pm cm jm L tn tm nm cur.toList _ cs u19 u20 u23 u24 wr hN0 hNp hNr hp hc hr hnb (by omega) hpc hpr hpn hcr hnr (tab_below hT hb (by omega)) ((hb.block pb hp).trans hpb) k0 k1 k2 k19 k20 k21 k22 k23 k24 ((hb.block rb hr).trans hrb)
      ((hb.cell (p := ⟨chb, 2, none⟩) hc).trans q2) ((hb.cell (p := ⟨chb, 3, none⟩) hc).trans q3) ((hb.cell (p := ⟨chb, 4, none⟩) hc).trans q4) ((hb.cell (p := ⟨chb, 5, none⟩) hc).trans q5) ((hb.cell (p := ⟨chb, 6, none⟩) hc).trans q6) ((hb.cell (p := ⟨chb, 7, none⟩) hc).trans q7)
      (fun k hk => (hb.cell (p := ⟨nb, k, none⟩) hnb).trans (hnm k hk)) hn hs hpm hcm hjp
      ⟨by simpa using hcs, .inr ⟨w.heap.size, L, cur, rfl, Nat.le_refl _, hcur, Nat.le_refl _, by unfold maxLen; omega, hcs, by rw [List.take_of_length_le (by simp; omega)]⟩⟩ hL
  have hB : Aside ((∀ k, k < n → w.cell? ⟨nb, k, none⟩ = some (.string (nm k))) ∧ w.cell? ⟨tb, 0, none⟩ = some (.int .u64 tn) ∧ w.cell? ⟨tb, 1, none⟩ = some (.int .i64 tm) ∧ w.cell? ⟨nwb, 0, none⟩ = some (.int .u64 cm) ∧ w.cell? ⟨nwb, 1, none⟩ = some (.int .u64 0)) := ⟨hnm, t0, t1, n0, n1⟩
  clear hnm t0 t1 n0 n1 q2 q3 q4 q5 q6 q7 hpb hrb k0 k1 k2 k19 k20 k21 k22 k23 k24 hT hjp
  obtain ⟨i0, hi, hz0, hz1, hz2⟩ := info_parts info62
  have hmk := run_make (P := Ybad.prog) w 54 62 i0 _ Ybad.underlying54 hi hz0 .i64 .i64 L L (by omega) (Int.le_refl _) (by rw [hz2]; omega) (by omega)
  rw [hz1] at hmk
  simp only [Int.toNat_natCast] at hmk
  obtain ⟨zc, hzc⟩ : ∃ zc, madeCells (Value.agg evZero).cells (L * 15) = zc := ⟨_, rfl⟩
  have hzs : zc.size = L * 15 := by rw [← hzc]; exact size_madeCells _ _
  rw [hzc] at hmk
  clear hi hz0 hz1 hz2 hzc
  go_wp2
  rename_i Q1 K1 hK1
  have hK1' : Aside (∀ (a : Act) (w : World), _ → K1 a w) := hK1
  clear hK1 hmk
  go_loopg [125] (L + 1) (fun q vi wr => ∃ (i : Nat) (cur : Array Value), vi = .int .i64 i ∧ i ≤ L ∧ L - i < q ∧ Below w.heap.size w wr ∧ wr.heap[w.heap.size]? = some (.cells cur 62 (0, 0)) ∧ cur.size = L * 15 ∧ ∀ j, j < i → cur[j * 15 + 1]? = some (.string (ps j)))
  case atStart => exact ⟨0, zc, rfl, Nat.zero_le _, by omega, (Below.refl _ _).alloc (Nat.le_refl _) _, by rw [alloc_at, if_pos rfl], hzs, fun j hj => absurd hj (Nat.not_lt_zero _)⟩
  case round =>
    obtain ⟨i, cur, rfl, hiL, hq, hbel, hcur, hcs, hdone⟩ := hrel
    by_cases hlt : i < L
    · obtain ⟨bb, oo, rfl, hbN, hp1⟩ := hpre i hlt
      have hp2 := (hbel.cell (p := ⟨bb, oo + i, none⟩) (by show bb < w.heap.size; omega)).trans hp1
      have hlt' : (i : Int) < (L : Int) := by omega
      have hsz : i * 15 + 1 < cur.size := by rw [hcs]; omega
      have hc1 : wr.cell? ⟨w.heap.size, i * 15 + 1, none⟩ = some cur[i * 15 + 1] := (Joins.cell_of_block hcur _).trans (by simp [hsz])
      have hf1 := Joins.unfrozen_of_block hcur (i * 15 + 1)
      have A : Aside (Below w.heap.size w wr ∧ wr.heap[w.heap.size]? = some (.cells cur 62 (0, 0)) ∧ cur.size = L * 15 ∧ ∀ j, j < i → cur[j * 15 + 1]? = some (.string (ps j))) := ⟨hbel, hcur, hcs, hdone⟩
      clear hpre hbel hcur hcs hdone hp1
      generalize cur[i * 15 + 1] = old at hc1
      go_wp2
      go_roundg (L - i)
      case measure => omega
      case rel =>
        obtain ⟨b1, b2, b3, b4⟩ := A.out
        refine ⟨i + 1, cur.setIfInBounds (i * 15 + 1) (.string (ps i)), by go_num, by omega, by omega, b1.setCell (p := ⟨w.heap.size, i * 15 + 1, none⟩) (Nat.le_refl _) _, Joins.block_setCell (i := i * 15 + 1) b2 _, by simpa using b3, fun j hj => ?_⟩
        rw [Array.getElem?_setIfInBounds]
        by_cases e : j = i
        · subst e; rw [if_pos rfl, if_pos hsz]
        · rw [if_neg (by omega)]; exact b4 j (by omega)
    · obtain rfl : i = L := by omega
      go_wp2
      refine hK1'.out _ _ ?_
      clear hK1'
      refine wp_seq_k fun K3 hK3 => ?_
      have hK3' : Aside (∀ (a : Act) (w : World), _ → K3 a w) := hK3
      clear hK3
      obtain ⟨y, hy, hyb, hcall⟩ := hins.out wr cur hbel hcur hcs
      have A : Aside (Below w.heap.size w wr ∧ wr.heap[w.heap.size]? = some (.cells cur 62 (0, 0)) ∧ cur.size = i * 15 ∧ (∀ j, j < i → cur[j * 15 + 1]? = some (.string (ps j))) ∧ (∀ i, i < 64 → y.testBit i = (pm.testBit i && !cm.testBit i)) ∧ (∀ j, j < i → ∃ bb oo, pa = some ⟨bb, oo, none⟩ ∧ bb < N ∧ w.cell? ⟨bb, oo + j, none⟩ = some (.string (ps j)))) := ⟨hbel, hcur, hcs, hdone, hyb, hpre⟩
      clear hbel hcur hcs hdone hyb hpre hins
      go_wp2_with (go_at_call 4; refine hcall.mono ?_; rintro e w' ⟨v, rfl, hI⟩; refine Veil.off ?_)
      unfold Veil
      clear hcall
      obtain ⟨hlow, hsame, p19, p20, p21, p22, p23, p24, ⟨lv, hl1, hl2⟩, ms, he1, he2⟩ := hI
      obtain ⟨b1, b2, b3, b4, b5, b6⟩ := A.out
      obtain ⟨g, cap, rfl⟩ : ∃ g cap, v = .slice (some ⟨g, 0, none⟩) (i + 1) cap := Joins.ownsRow_form he1 (by omega)
      obtain ⟨ga, gc, rfl⟩ := own_slice he2
      obtain ⟨fa, fc, rfl⟩ := own_slice hl2
      go_wp2
      have hwS : w.heap.size < wr.heap.size := (Array.getElem?_eq_some_iff.1 b2).1
      have hsz := hlow.size
      have hkc : ∀ j o, j ≠ pb → j ≠ rb → j < w.heap.size → w'.cell? ⟨j, o, none⟩ = w.cell? ⟨j, o, none⟩ := fun j o h1 h2 h3 => (World.cell?_of_block (hsame j h1 h2 h3)).trans (b1.cell (p := ⟨j, o, none⟩) h3)
      obtain ⟨z1, z2, z3, z4, z5⟩ := hB.out
      refine hK3'.out _ _ (law_C N n nb s pm cm y tb g cap i pc (mem cm).length gc nwb pb chb rb (mem y).length fc tn tm nm ps pa ga fa w0 w' hn hs hcm rfl hL (by omega) (by omega) (by omega) ?hev ((hkc tb 0 htp htr htb).trans z2) ((hkc tb 1 htp htr htb).trans z3)
        (fun j x hj => own_cell he2 j (.string (nm x)) (by rw [List.getElem?_map, hj]; rfl)) (fun k hk => (hkc nb k hpn hnr hnb).trans (z1 k hk)) ?hpre (Hfin.out.trans ((b1.mono (by omega)).trans hlow)) ((hkc nwb 0 hwp hwr hnw).trans z4) ((hkc nwb 1 hwp hwr hnw).trans z5) p19 p20 p21 p22 p23 p24 hpm hy b5 rfl
        ((Joins.cell_of_block hl1 0).trans (by rw [List.length_map]; rfl)) ((Joins.cell_of_block hl1 1).trans rfl) ?fcells _ _ _ _ _ _ _ _ _ _ _ _ _ _ _ _ _ _ _ _ _ _ _ _ _ _ _ _ _ _ _ _ _ _ _ _ _ _ _ _ _ _ _ _ _ _ _ _ _ _ _ _ _ _ _ _ _ _ _ _ _ _ _ _ _ _ _ _ _ _ _ _ _ _ _ _ _ _ _ _ _ _ _ _ _ _ _ _ _ _ _ _ _ _ _ _ _ _ _ _ _ _ _ _ _ _ _ _ _ _ _ _ _ _ _ _ _ _ _ _ _ _ _ _ _ _ _ _ _ _ _ _ _ _ _ _ _ _ _ _ _ _ _ _ _ _ _ _ _ _ _ _ _ _ _ _ _ _ _ _ _ _ _ _ _ _ _ _ _ _ _ _ _ _ _ _ _ _ _ _ _ _ _ _ _ _ _ _ _ _ _ _ _ _ _ _ _ _ _ _ _ _ _ _ _ _ _ _ _ _ _ _ _ _ _ _ _ _ _ _ _ _ _ _ _ _ _ _ _ _ _ _ _ _ _ _ _ _ _ _ _ _ _ _ _ _ _ _ _ _ _ _ _ _ _ _ _ _ _ _ _ _ _ _ _ _ _ _ _ _ _ _ _ _ _ _ _ _ _ _ _ _ _ _ _ _ _ _ _ _ _ _ _ _ _ _ _ _ _ _ _ _)
      case hev =>
        intro j u hj
        have hj15 : j < 15 := (List.getElem?_eq_some_iff.1 hj).1
        rw [he1.cellAt (i * 15 + j) (by omega), List.getElem?_append_right (by simp; omega)]
        rw [show i * 15 + j - cur.toList.length = j by simp; omega]
        exact hj
      case hpre =>
        intro j hj
        obtain ⟨bb, oo, e1, e2, e3⟩ := b6 j hj
        refine ⟨bb, oo, e1, (hlow.cell (p := ⟨bb, oo + j, none⟩) e2).trans ((b1.cell (p := ⟨bb, oo + j, none⟩) (by show bb < w.heap.size; omega)).trans e3), ?_⟩
        rw [he1.cellAt (j * 15 + 1) (by omega), List.getElem?_append_left (by simp; omega)]
        have := b4 j hj
        simpa using this
      case fcells =>
        intro j x hj
        obtain ⟨g1, e1, _, e3⟩ := own_cell hl2 j (.int .i64 x) (by rw [List.getElem?_map, hj]; rfl)
        exact ⟨g1, e1, e3⟩
end Go.Proofs.YbulkceouDoor
