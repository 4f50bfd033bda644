/-
  LawS4032CSingleStep: the series (seat b4032aZ).
-/
import Derived.Test.YbulkcemcGreatLawD
import Derived.Deep.RegionHeldLaw
import Derived.Deep.AppendLies
namespace Go.Proofs.YbulkcemcGreat
open Go.RowKit Go.Shelf Go.Lib

noncomputable def lawC : Code := (Ybaz.f3.body.bind (fromR 14)).getD .skip

/-- The first argument in memory. -/
def ArgS (w : World) (B : Nat) (a : Option Addr) (len : Nat) (F : Nat → Int) (M : Nat → Nat) : Prop := ∀ i, i < len → ∃ b off, a = some ⟨b, off, none⟩ ∧ b < B ∧ w.cell? ⟨b, off + i * 2, none⟩ = some (.int .i32 (F i)) ∧ w.cell? ⟨b, off + i * 2 + 1, none⟩ = some (.int .u8 (M i)) ∧ -2147483648 ≤ F i ∧ F i ≤ 2147483647 ∧ M i ≤ 255

theorem info32 : (Ybaz.prog.info? 32).map (fun i => (i.zero, i.size, i.bytes)) = some (some (.agg #[.int .i64 0, .int .i64 0, .int .i64 0]), 3, 24) := by kernel_rfl

/-- What make gives, for the series. -/
theorem make28 (w : World) (n : Nat) (hn : n ≤ 300) : ∃ zc : Array Value, zc.size = (n + 1) * 3 ∧ (Instr.makeSlice 28 (.int .i64 0) (.int .i64 ((n : Int) + 1))).run Ybaz.prog w = .ok (.slice (some ⟨w.heap.size, 0, none⟩) 0 (n + 1)) (w.alloc (.cells zc 32)) := by
  obtain ⟨i0, hi, hz0, hz1, hz2⟩ := info_parts info32
  have hmk := run_make (P := Ybaz.prog) w 28 32 i0 _ Ybaz.underlying28 hi hz0 .i64 .i64 0 ((n : Int) + 1) (by omega) (by omega) (by rw [hz2]; omega) (by omega)
  rw [hz1] at hmk
  rw [show ((n : Int) + 1).toNat = n + 1 by omega] at hmk
  exact ⟨_, size_madeCells _ _, hmk⟩

/-- The series, and its cells. -/
def serX (S : List Int) (F : Nat → Int) (M : Nat → Nat) (n : Nat) : Ser := (List.range n).map fun i => (F i, S.getD (M i % S.length) 0)
def cellX (step : Nat) (X : Ser) (k : Nat) : List Value := [.int .i64 (X.getD k (0, 0)).1, .int .i64 step, .int .i64 (X.getD k (0, 0)).2]

theorem ser_of_row {w : World} {B ob oc step : Nat} {X : Ser} (h : w.ownsRow B 32 3 (.slice (some ⟨ob, 0, none⟩) X.length oc) X.length ((List.range X.length).flatMap (cellX step X))) : SerAt w ob X step := fun j x hx => by
  have hj : j < X.length := (List.getElem?_eq_some_iff.1 hx).1
  have hd : X.getD j (0, 0) = x := by simp [List.getD, hx]
  have h0 := h.cellAt (j * 3 + 0) (by omega)
  have h1 := h.cellAt (j * 3 + 1) (by omega)
  have h2 := h.cellAt (j * 3 + 2) (by omega)
  rw [flat3_get _ (fun _ => rfl) _ (by omega) _ _ hj] at h0 h1 h2
  simp only [cellX, hd] at h0 h1 h2
  exact ⟨h0, h1, h2⟩

theorem rows_snoc (step : Nat) (S : List Int) (F : Nat → Int) (M : Nat → Nat) (n : Nat) :
    (List.range n).flatMap (cellX step (serX S F M n)) ++ [.int .i64 (F n), .int .i64 step, .int .i64 (S.getD (M n % S.length) 0)] = (List.range (n + 1)).flatMap (cellX step (serX S F M (n + 1))) := by
  refine flat3_ext (fun _ => rfl) (by rw [List.length_append, flat3_length _ (fun _ => rfl)]; simp; omega) fun k c hk hc => ?_
  have hl := flat3_length (cellX step (serX S F M n)) (fun _ => rfl) n
  by_cases h : k < n
  · rw [List.getElem?_append_left (by omega), flat3_get _ (fun _ => rfl) c hc _ _ h]
    have e : ∀ m, k < m → (serX S F M m).getD k (0, 0) = (F k, S.getD (M k % S.length) 0) := fun m hm => by simp [serX, List.getD, hm]
    unfold cellX
    rw [e n h, e (n + 1) hk]
  · obtain rfl : k = n := by omega
    rw [List.getElem?_append_right (by omega), hl, show k * 3 + c - k * 3 = c by omega]
    have e : (serX S F M (k + 1)).getD k (0, 0) = (F k, S.getD (M k % S.length) 0) := by simp [serX, List.getD]
    unfold cellX
    rw [e]

set_option linter.unusedSimpArgs false in
set_option maxRecDepth 100000 in
set_option maxHeartbeats 1000000 in
theorem law_C (a0 : Option Addr) (len0 cap0 sb sc step : Nat) (F : Nat → Int) (M : Nat → Nat) (S : List Int) (lo U : Int) (w0 w : World) (B : Nat) (hb : Below B w0 w) (hB : B ≤ w.heap.size) (hArg : ArgS w B a0 len0 F M) (hl0 : len0 ≤ 256) (hlo : -2147483648 ≤ lo ∧ lo ≤ 2147483647) (hU : 0 ≤ U ∧ U ≤ 65535)
    (hS : SmsAt w sb S) (hs0 : 0 < step) (hs1 : step ≤ 1000) (R : Ending → World → Prop) (hR : ∀ w', Below B w0 w' → R (.returned (.bool true)) w') (c1 c2 c5 c6 c7 c8 c9 c10 c12 c13 c15 c16 c17 c18 c19 c20 c21 c22 c23 c24 c25 c26 c27 c28 c29 c30 c31 c32 c33 c34 c35 c36 c37 c38 c39 c40 c41 c42 c43 c44 c45 c46 c47 c48 c49 c50 c51 c52 c53 c54 c55 c56 c57 c58 c59 c60 c61 c62 c63 c64 c65 c66 c67 c68 c69 c70 c71 c72 c73 c74 c75 c76 c77 c78 c79 c80 c81 c82 c83 c84 c85 c86 c87 c88 c89 c90 c91 c92 c93 c94 c95 c96 c97 c98 c99 c100 c101 c102 c103 c104 c105 c106 c107 c108 c109 c110 c111 c112 c113 c114 c115 c116 c117 c118 c119 c120 c121 c122 c123 c124 c125 c126 c127 c128 c129 c130 c131 c132 c133 c134 c135 c136 c137 c138 c139 c140 c141 c142 c143 c144 c145 c146 c147 c148 c149 c150 c151 c152 c153 c154 c155 c156 c157 c158 c159 c160 c161 c162 c163 c164 c165 c166 c167 c168 c169 c170 c171 c172 c173 c174 c175 c176 c177 c178 c179 c180 c181 c182 c183 c184 c185 c186 c187 c188 c189 c190 c191 c192 c193 c194 c195 c196 c197 c198 c199 c200 c201 c202 c203 c204 c205 c206 : Value) :
    lawC.wp Ybaz.prog (bodyPost Ybaz.prog Ybaz.f3 R) ⟨#[.slice a0 len0 cap0, c1, c2, .int .i32 lo, .int .u16 U, c5, c6, c7, c8, c9, c10, .slice (some ⟨sb, 0, none⟩) S.length sc, c12, c13, .int .i64 step, c15, c16, c17, c18, c19, c20, c21, c22, c23, c24, c25, c26, c27, c28, c29, c30, c31, c32, c33, c34, c35, c36, c37, c38, c39, c40, c41, c42, c43, c44, c45, c46, c47, c48, c49, c50, c51, c52, c53, c54, c55, c56, c57, c58, c59, c60, c61, c62, c63, c64, c65, c66, c67, c68, c69, c70, c71, c72, c73, c74, c75, c76, c77, c78, c79, c80, c81, c82, c83, c84, c85, c86, c87, c88, c89, c90, c91, c92, c93, c94, c95, c96, c97, c98, c99, c100, c101, c102, c103, c104, c105, c106, c107, c108, c109, c110, c111, c112, c113, c114, c115, c116, c117, c118, c119, c120, c121, c122, c123, c124, c125, c126, c127, c128, c129, c130, c131, c132, c133, c134, c135, c136, c137, c138, c139, c140, c141, c142, c143, c144, c145, c146, c147, c148, c149, c150, c151, c152, c153, c154, c155, c156, c157, c158, c159, c160, c161, c162, c163, c164, c165, c166, c167, c168, c169, c170, c171, c172, c173, c174, c175, c176, c177, c178, c179, c180, c181, c182, c183, c184, c185, c186, c187, c188, c189, c190, c191, c192, c193, c194, c195, c196, c197, c198, c199, c200, c201, c202, c203, c204, c205, c206], []⟩ w := by
  obtain ⟨i3, hi3, hz30, hz31, hz32⟩ := info_parts info32
  have hA3 : Aside (Ybaz.prog.info? 32 = some i3 ∧ i3.zero = some (.agg #[.int .i64 0, .int .i64 0, .int .i64 0]) ∧ i3.size = 3 ∧ i3.bytes = 24) := ⟨hi3, hz30, hz31, hz32⟩
  have hAR : Aside (∀ w', Below B w0 w' → R (.returned (.bool true)) w') := hR
  have hA : Aside (SmsAt w sb S ∧ ArgS w B a0 len0 F M) := ⟨hS, hArg⟩
  have hsb := hS.lt
  have hSf := hS.few
  have hS0 := hS.pos
  obtain ⟨zc, hzs, hmkr⟩ := make28 w len0 (by omega)
  clear hS hArg hR hi3 hz30 hz31 hz32
  conv => arg 2; whnf
  go_wp2
  clear hmkr
  rename_i K1 hK1
  have hK1' : Aside (∀ (a : Act) (w : World), _ → K1 a w) := hK1
  clear hK1
  go_loopg [15, 70] (len0 + 1) (fun q vo vi wr => ∃ i ob oc : Nat, vo = .slice (some ⟨ob, 0, none⟩) i oc ∧ vi = .int .i64 i ∧ i ≤ len0 ∧ len0 - i < q ∧ Below w.heap.size w wr ∧ wr.ownsRow w.heap.size 32 3 (.slice (some ⟨ob, 0, none⟩) i oc) i ((List.range i).flatMap (cellX step (serX S F M i))))
  case atStart =>
    refine ⟨0, w.heap.size, len0 + 1, rfl, rfl, Nat.zero_le _, by omega, (Below.refl _ _).alloc (Nat.le_refl _) _, rfl, .inr ⟨w.heap.size, len0 + 1, zc, rfl, Nat.le_refl _, by rw [alloc_at, if_pos rfl], Nat.zero_le _, by unfold maxLen; omega, hzs, by simp⟩⟩
  case round =>
    obtain ⟨i, ob, oc, rfl, rfl, hiX, hq, hbr, hrow⟩ := hrel
    have hszr := hbr.size
    by_cases hlt : i < len0
    · obtain ⟨b, off, rfl, hbB, p0, p1, f0, f1, m1⟩ := hA.out.2 i hlt
      have o0 := (hbr.cell (p := ⟨b, off + i * 2, none⟩) (by show b < w.heap.size; omega)).trans p0
      have o1 := (hbr.cell (p := ⟨b, off + i * 2 + 1, none⟩) (by show b < w.heap.size; omega)).trans p1
      have hlt' : (i : Int) < (len0 : Int) := by omega
      obtain ⟨q1, hq1⟩ : ∃ q1, M i % S.length = q1 := ⟨_, rfl⟩
      have hq1l : q1 < S.length := by rw [← hq1]; exact Nat.mod_lt _ hS0
      have s0 := (hbr.cell (p := ⟨sb, q1, none⟩) hsb).trans (hA.out.1.ints q1 hq1l)
      have hsn := rows_snoc step S F M i
      rw [hq1] at hsn
      have htm : (M i : Int).tmod (S.length : Int) = (q1 : Int) := by rw [← hq1, ← Int.ofNat_tmod]
      obtain ⟨sv, hsv⟩ : ∃ sv, S.getD q1 0 = sv := ⟨_, rfl⟩
      rw [hsv] at s0 hsn
      obtain ⟨m, hm⟩ : ∃ m, M i = m := ⟨_, rfl⟩
      obtain ⟨fv, hfv⟩ : ∃ fv, F i = fv := ⟨_, rfl⟩
      have hsn' := hsn
      rw [hfv] at hsn'
      rw [hm] at o1 m1 htm hq1
      rw [hfv] at o0 f0 f1
      have hAr : Aside (wr.ownsRow w.heap.size 32 3 (.slice (some ⟨ob, 0, none⟩) i oc) i ((List.range i).flatMap (cellX step (serX S F M i))) ∧ (List.range i).flatMap (cellX step (serX S F M i)) ++ [.int .i64 fv, .int .i64 step, .int .i64 sv] = (List.range (i + 1)).flatMap (cellX step (serX S F M (i + 1)))) := ⟨hrow, hsn'⟩
      have hob := hrow.lt ob rfl
      have hsob : sb ≠ ob := by omega
      have hS0' : (0 : Int) < (S.length : Int) := by omega
      generalize hL : S.length = L at *
      have hSne : ((L : Int) == 0) = false := beq_eq_false_iff_ne.2 (by omega)
      have hq1' : (q1 : Int) < (L : Int) := by omega
      clear hrow hsn hsn' p0 p1 hsv hm hfv
      obtain ⟨W, hW⟩ : ∃ W, wr.alloc (.cells #[.int .i32 fv, .int .u8 m] 30) = W := ⟨_, rfl⟩
      have hWb : Below wr.heap.size wr W := by rw [← hW]; exact (Below.refl _ _).alloc (Nat.le_refl _) _
      have hWs : W.heap.size = wr.heap.size + 1 := by rw [← hW]; simp
      have hWx : W.heap[wr.heap.size]? = some (.cells #[.int .i32 fv, .int .u8 m] 30 (0, 0)) := by rw [← hW, alloc_at, if_pos rfl]
      have hW0 : W.cell? ⟨wr.heap.size, 0, none⟩ = some (.int .i32 fv) := Joins.cell_of_block hWx 0
      have hW1 : W.cell? ⟨wr.heap.size, 1, none⟩ = some (.int .u8 m) := Joins.cell_of_block hWx 1
      have hW2 : W.cell? ⟨sb, q1, none⟩ = some (.int .i64 sv) := (hWb.cell (p := ⟨sb, q1, none⟩) (by show sb < wr.heap.size; omega)).trans s0
      have hSof : ∀ w', Below W.heap.size W w' → w'.cell? ⟨wr.heap.size, 0, none⟩ = some (.int .i32 fv) ∧ w'.cell? ⟨wr.heap.size, 1, none⟩ = some (.int .u8 m) ∧ w'.cell? ⟨sb, q1, none⟩ = some (.int .i64 sv) := fun w' h =>
        ⟨(h.cell (p := ⟨wr.heap.size, 0, none⟩) (by show wr.heap.size < W.heap.size; omega)).trans hW0, (h.cell (p := ⟨wr.heap.size, 1, none⟩) (by show wr.heap.size < W.heap.size; omega)).trans hW1, (h.cell (p := ⟨sb, q1, none⟩) (by show sb < W.heap.size; omega)).trans hW2⟩
      have hrA : (W.alloc (.cells #[.int .i64 fv, .int .i64 step, .int .i64 sv] 32)).ownsRow w.heap.size 32 3 (.slice (some ⟨ob, 0, none⟩) i oc) i ((List.range i).flatMap (cellX step (serX S F M i))) := (row_below hAr.out.1 hWb).alloc _
      have hnew : (W.alloc (.cells #[.int .i64 fv, .int .i64 step, .int .i64 sv] 32)).heap[W.heap.size]? = some (.cells #[.int .i64 fv, .int .i64 step, .int .i64 sv] 32 (0, 0)) := by rw [alloc_at, if_pos rfl]
      have hnews : ∀ (j : Nat) (u : Value), [Value.int .i64 fv, .int .i64 step, .int .i64 sv][j]? = some u → (W.alloc (.cells #[.int .i64 fv, .int .i64 step, .int .i64 sv] 32)).cell? ((⟨W.heap.size, 0, none⟩ : Addr).add j) = some u := fun j u hu => World.news_of_block hnew j u hu
      have h1c : ∀ u ∈ [Value.int .i64 fv, .int .i64 step, .int .i64 sv], u.oneCell' = true := fun u hu => by
        simp at hu
        rcases hu with rfl | rfl | rfl <;> rfl
      have hSof3 : ∀ w3, (W.alloc (.cells #[.int .i64 fv, .int .i64 step, .int .i64 sv] 32)).drew.grownBy w3 (Value.slice (some ⟨ob, 0, none⟩) i oc).ownBlock → w3.cell? ⟨wr.heap.size, 0, none⟩ = some (.int .i32 fv) ∧ w3.cell? ⟨wr.heap.size, 1, none⟩ = some (.int .u8 m) ∧ w3.cell? ⟨sb, q1, none⟩ = some (.int .i64 sv) := fun w3 hg => by
        obtain ⟨e1, e2, e3⟩ := hSof _ ((Below.refl W.heap.size W).alloc (Nat.le_refl _) (.cells #[.int .i64 fv, .int .i64 step, .int .i64 sv] 32))
        have hsz : (W.alloc (.cells #[.int .i64 fv, .int .i64 step, .int .i64 sv] 32)).drew.heap.size = W.heap.size + 1 := by show (W.alloc _).heap.size = _; simp
        exact ⟨(hg.cell_far ⟨wr.heap.size, 0, none⟩ (by rw [hsz]; show wr.heap.size < _; omega) (by simp [Value.ownBlock]; omega)).trans e1, (hg.cell_far ⟨wr.heap.size, 1, none⟩ (by rw [hsz]; show wr.heap.size < _; omega) (by simp [Value.ownBlock]; omega)).trans e2, (hg.cell_far ⟨sb, q1, none⟩ (by rw [hsz]; show sb < _; omega) (by simp [Value.ownBlock]; omega)).trans e3⟩
      have hAW : Aside (wr.alloc (.cells #[.int .i32 fv, .int .u8 m] 30) = W) := hW
      have hAs : Aside (W.heap.size = wr.heap.size + 1) := hWs
      clear hW hWs
      go_wp2
      rw [hAW.out]
      refine wp_normal ?_
      go_region_held_law (fun w' => w'.cell? ⟨wr.heap.size, 0, none⟩ = some (.int .i32 fv) ∧ w'.cell? ⟨wr.heap.size, 1, none⟩ = some (.int .u8 m) ∧ w'.cell? ⟨sb, q1, none⟩ = some (.int .i64 sv))
        (first | exact hSof _ ((Below.refl _ _).drew) | exact hSof _ (((Below.refl _ _).drew).alloc (Nat.le_refl _) _) | exact hSof _ (((Below.refl _ _).alloc (Nat.le_refl _) _).drew) | exact hSof3 _ hgrow)
        (first | (refine step_append_lies _ rfl (.tmp 74) (.tmp 89) 28 rfl w.heap.size 32 i3 (.agg #[.int .i64 0, .int .i64 0, .int .i64 0]) 3 24 Ybaz.underlying28 hA3.out.1 hA3.out.2.1 hA3.out.2.2.1 hA3.out.2.2.2 rfl (by decide) (.slice (some ⟨ob, 0, none⟩) i oc) i _ rfl hrA ⟨W.heap.size, 0, none⟩ 1 1 [.int .i64 fv, .int .i64 step, .int .i64 sv] rfl rfl hnews h1c (by omega) (by unfold maxLen; omega) (by omega) (by have := hAs.out; simp; omega) _ rfl ?_; intro g cap w3 hown hgrow hat hltg))
      show Exit.inBlock 3 _ Exit.normal _ _
      rename_i hHeld
      clear hHeld
      simp only [Act.put, List.getElem_toArray, List.getElem_cons_zero, List.getElem_cons_succ, List.setIfInBounds_toArray, List.set_cons_zero, List.set_cons_succ]
      rw [hAr.out.2] at hown
      have hbW : Below w.heap.size w w3 := (((hbr.trans (hWb.mono hszr)).alloc (by have := hAs.out; omega) _).drew).grown hgrow (by have := hAs.out; show _ ≤ (W.alloc _).heap.size; simp; omega) (fun j e => by cases e; exact hob.1)
      have hAo : Aside (w3.ownsRow w.heap.size 32 3 (.slice (some ⟨g, 0, none⟩) (i + 1) cap) (i + 1) ((List.range (i + 1)).flatMap (cellX step (serX S F M (i + 1))))) := hown
      clear hown hgrow hat hnew hnews hrA
      go_wp2
      go_roundg (len0 - i)
      case measure => omega
      case rel => exact ⟨i + 1, g, cap, by simp, by go_num, by omega, by omega, hbW, hAo.out⟩
    · obtain rfl : i = len0 := by omega
      go_wp2
      refine hK1'.out _ _ ?_
      clear hK1'
      have hSr := hA.out.1.below hbr hsb
      have hbB : Below B w0 wr := hb.trans (hbr.mono hB)
      have hmem : ∀ q, q < S.length → S.getD q 0 ∈ S := fun q hq => by
        have : S.getD q 0 = S[q] := by simp [List.getD, hq]
        rw [this]
        exact List.getElem_mem hq
      refine wp_seq_k fun K2 hK2 => ?_
      have hK2' : Aside (∀ (a : Act) (w : World), _ → K2 a w) := hK2
      clear hK2
      by_cases h0 : i = 0
      · subst h0
        have s0 : wr.cell? ⟨sb, 0, none⟩ = some (.int .i64 (S.getD 0 0)) := hSr.ints 0 hS0
        have hS0' : (0 : Int) < (S.length : Int) := by omega
        obtain ⟨sv, hsv⟩ : ∃ sv, S.getD 0 0 = sv := ⟨_, rfl⟩
        have hsS : sv ∈ S := by rw [← hsv]; exact hmem 0 hS0
        rw [hsv] at s0
        have hrA : (wr.alloc (.cells #[.int .i64 0, .int .i64 step, .int .i64 sv] 32)).ownsRow w.heap.size 32 3 (.slice (some ⟨ob, 0, none⟩) 0 oc) 0 [] := hrow.alloc _
        have hnew : (wr.alloc (.cells #[.int .i64 0, .int .i64 step, .int .i64 sv] 32)).heap[wr.heap.size]? = some (.cells #[.int .i64 0, .int .i64 step, .int .i64 sv] 32 (0, 0)) := by rw [alloc_at, if_pos rfl]
        have hnews : ∀ (j : Nat) (u : Value), [Value.int .i64 0, .int .i64 step, .int .i64 sv][j]? = some u → (wr.alloc (.cells #[.int .i64 0, .int .i64 step, .int .i64 sv] 32)).cell? ((⟨wr.heap.size, 0, none⟩ : Addr).add j) = some u := fun j u hu => World.news_of_block hnew j u hu
        have h1c : ∀ u ∈ [Value.int .i64 0, .int .i64 step, .int .i64 sv], u.oneCell' = true := fun u hu => by
          simp at hu
          rcases hu with rfl | rfl | rfl <;> rfl
        have hob := hrow.lt ob rfl
        have hAS : Aside (SmsAt wr sb S) := hSr
        clear hrow hSr hmem hsv
        go_wp2_with (at_builtin; refine Veil.off ?_)
        unfold Veil
        refine wpList_append_lies _ rfl (.tmp 95) (.tmp 101) 28 rfl w.heap.size 32 i3 (.agg #[.int .i64 0, .int .i64 0, .int .i64 0]) 3 24 Ybaz.underlying28 hA3.out.1 hA3.out.2.1 hA3.out.2.2.1 hA3.out.2.2.2 rfl (by decide) (.slice (some ⟨ob, 0, none⟩) 0 oc) 0 [] rfl hrA ⟨wr.heap.size, 0, none⟩ 1 1 [.int .i64 0, .int .i64 step, .int .i64 sv] rfl rfl hnews h1c (by omega) (by unfold maxLen; omega) (by omega) (by simp; omega) _ rfl ?_
        intro g cap w3 hown hgrow _ hltg
        have hbA : Below w.heap.size w (wr.alloc (.cells #[.int .i64 0, .int .i64 step, .int .i64 sv] 32)) := hbr.alloc hszr _
        have hb3 : Below w.heap.size w w3 := hbA.grown hgrow (by simp; omega) (fun j e => by cases e; exact hob.1)
        have hAo : Aside (w3.ownsRow w.heap.size 32 3 (.slice (some ⟨g, 0, none⟩) 1 cap) 1 ((List.range 1).flatMap (cellX step [((0 : Int), sv)]))) := hown
        clear hown hgrow hnew hnews hrA
        go_wp2
        refine hK2'.out _ _ ?_
        exact law_D sb sc g cap step [((0 : Int), sv)] S lo U w0 w3 B (hb.trans (hb3.mono hB)) (Nat.le_trans hB hb3.size) (by simp) (by simp) (fun x hx => by simp at hx; rw [hx]; exact hsS) (fun x hx => by simp at hx; rw [hx]; simp) hlo hU hltg (hA.out.1.below hb3 hsb) (ser_of_row hAo.out) hs0 hs1 R hAR.out _ _ _ _ _ _ _ _ _ _ _ _ _ _ _ _ _ _ _ _ _ _ _ _ _ _ _ _ _ _ _ _ _ _ _ _ _ _ _ _ _ _ _ _ _ _ _ _ _ _ _ _ _ _ _ _ _ _ _ _ _ _ _ _ _ _ _ _ _ _ _ _ _ _ _ _ _ _ _ _ _ _ _ _ _ _ _ _ _ _ _ _ _ _ _ _ _ _ _ _ _ _ _ _ _ _ _ _ _ _ _ _ _ _ _ _ _ _ _ _ _ _ _ _ _ _ _ _ _ _ _ _ _ _ _ _ _ _ _ _ _ _ _ _ _ _ _ _ _ _ _ _ _ _ _ _ _ _ _ _ _ _ _ _ _ _ _ _ _ _ _ _ _ _ _ _ _ _ _ _ _ _ _ _ _ _ _ _ _ _ _ _ _ _ _ _ _ _ _ _ _ _
      · have hXlen : (serX S F M i).length = i := by simp [serX]
        have hne : ((i : Int) == 0) = false := beq_eq_false_iff_ne.2 (by omega)
        have hfacts : ∀ x ∈ serX S F M i, x.2 ∈ S ∧ -3000000000 ≤ x.1 ∧ x.1 ≤ 3000000000 := fun x hx => by
          obtain ⟨j, hj, rfl⟩ := List.mem_map.1 hx
          have hj' := List.mem_range.1 hj
          obtain ⟨_, _, _, _, _, _, f0, f1, _⟩ := hA.out.2 j hj'
          exact ⟨hmem _ (Nat.mod_lt _ hS0), by show _ ≤ F j; omega, by show F j ≤ _; omega⟩
        have hob := hrow.lt ob rfl
        have hser : SerAt wr ob (serX S F M i) step := ser_of_row (B := w.heap.size) (oc := oc) (by rw [hXlen]; exact hrow)
        have hD := law_D sb sc ob oc step (serX S F M i) S lo U w0 wr B hbB (Nat.le_trans hB hszr) (by omega) (by omega) (fun x hx => (hfacts x hx).1) (fun x hx => (hfacts x hx).2) hlo hU hob.2 hSr hser hs0 hs1 R hAR.out
        rw [hXlen] at hD
        clear hser hfacts hrow hSr hmem
        go_wp2
        refine hK2'.out _ _ ?_
        exact hD _ _ _ _ _ _ _ _ _ _ _ _ _ _ _ _ _ _ _ _ _ _ _ _ _ _ _ _ _ _ _ _ _ _ _ _ _ _ _ _ _ _ _ _ _ _ _ _ _ _ _ _ _ _ _ _ _ _ _ _ _ _ _ _ _ _ _ _ _ _ _ _ _ _ _ _ _ _ _ _ _ _ _ _ _ _ _ _ _ _ _ _ _ _ _ _ _ _ _ _ _ _ _ _ _ _ _ _ _ _ _ _ _ _ _ _ _ _ _ _ _ _ _ _ _ _ _ _ _ _ _ _ _ _ _ _ _ _ _ _ _ _ _ _ _ _ _ _ _ _ _ _ _ _ _ _ _ _ _ _ _ _ _ _ _ _ _ _ _ _ _ _ _ _ _ _ _ _ _ _ _ _ _ _ _ _ _ _ _ _ _ _ _ _ _ _ _ _ _ _ _ _
end Go.Proofs.YbulkcemcGreat
