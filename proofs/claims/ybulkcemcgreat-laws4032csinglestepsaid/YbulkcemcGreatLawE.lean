/-
  LawS4032CSingleStep: the law's own loop over the units of time (seat b4032aZ).
-/
import Derived.Test.YbulkcemcGreatLawF
namespace Go.Proofs.YbulkcemcGreat
open Go.RowKit Go.Shelf Go.Lib

noncomputable def lawE : Code := (Ybaz.f3.body.bind (fromR 31)).getD .skip

/-- What make gives, for a row of n integers. -/
theorem make25 (w : World) (n : Nat) (hn : n ≤ 256) : ∃ zc : Array Value, zc.size = n ∧ (Instr.makeSlice 25 (.int .i64 n) (.int .i64 n)).run Ybaz.prog w = .ok (.slice (some ⟨w.heap.size, 0, none⟩) n n) (w.alloc (.cells zc 3)) := by
  obtain ⟨i0, hi, hz0, hz1, hz2⟩ := info_parts info3
  have hmk := run_make (P := Ybaz.prog) w 25 3 i0 _ Ybaz.underlying25 hi hz0 .i64 .i64 n n (by omega) (Int.le_refl _) (by rw [hz2]; omega) (by omega)
  rw [hz1, Nat.mul_one] at hmk
  simp only [Int.toNat_natCast] at hmk
  exact ⟨_, size_madeCells _ _, hmk⟩

theorem dueAt_take (X : Ser) (step : Nat) (t : Int) (i : Nat) (x : Int × Int) (hx : X[i]? = some x) : dueAt (X.take (i + 1)) step t = dueAt (X.take i) step t ++ (if (x.1 - t) % (step : Int) = 0 then [x.2] else []) := by
  unfold dueAt
  rw [List.take_add_one, hx, List.filter_append, List.map_append]
  congr 1
  by_cases h : (x.1 - t) % (step : Int) = 0
  · simp [h]
  · simp [h]

theorem own_form {w : World} {B e size n : Nat} {v : Value} {xs : List Value} (h : w.ownsRow B e size v n xs) : ∃ p c, v = .slice p n c := by
  rcases h.2 with ⟨e, e2⟩ | ⟨g, cp, cur, e, _⟩
  · exact ⟨none, 0, by rw [e, e2]⟩
  · exact ⟨_, _, e⟩

set_option linter.unusedSimpArgs false in
set_option maxRecDepth 100000 in
set_option maxHeartbeats 1000000 in
theorem law_E (sb sc ob oc step n g1 c1' g2 c2' : Nat) (X : Ser) (S : List Int) (lo hi : Int) (w0 w : World) (B : Nat) (hb : Below B w0 w) (hB : B ≤ w.heap.size) (hXl : X.length ≤ 900) (hXS : ∀ x ∈ X, x.2 ∈ S) (hXr : ∀ x ∈ X, -3000000000 ≤ x.1 ∧ x.1 ≤ 3000000000) (hlo : -3000000000 ≤ lo ∧ lo ≤ 3000000000)
    (hob : ob < w.heap.size) (hS : SmsAt w sb S) (hO : SerAt w ob X step) (hs0 : 0 < step) (hs1 : step ≤ 1000) (hn : n ≤ 2000) (hd : hi = lo + n) (h1 : MapAt w (.slice (some ⟨g1, 0, none⟩) S.length c1') (comp (rmap S) (fun i => dueAt X step (lo + i)) S.length n)) (h2 : MapAt w (.slice (some ⟨g2, 0, none⟩) S.length c2') (List.range S.length)) (R : Ending → World → Prop) (hR : ∀ w', Below B w0 w' → R (.returned (.bool true)) w') (c0 c1 c2 c3 c4 c5 c6 c7 c8 c9 c10 c12 c13 c16 c17 c22 c23 c24 c25 c26 c27 c28 c29 c30 c31 c32 c33 c34 c35 c36 c37 c38 c39 c40 c41 c42 c43 c44 c45 c46 c47 c48 c49 c50 c51 c52 c53 c54 c55 c56 c57 c58 c59 c60 c61 c62 c63 c64 c65 c66 c67 c68 c69 c70 c71 c72 c73 c74 c75 c76 c77 c78 c79 c80 c81 c82 c83 c84 c85 c86 c87 c88 c89 c90 c91 c92 c93 c94 c95 c96 c97 c98 c99 c100 c101 c102 c103 c104 c105 c106 c107 c108 c109 c110 c111 c112 c113 c114 c115 c116 c117 c118 c119 c120 c121 c122 c123 c124 c125 c126 c127 c128 c129 c130 c131 c132 c133 c134 c135 c136 c137 c138 c139 c140 c141 c142 c143 c144 c145 c146 c147 c148 c149 c150 c151 c152 c153 c154 c155 c156 c157 c158 c159 c160 c161 c162 c163 c164 c165 c166 c167 c168 c169 c170 c171 c172 c173 c174 c175 c176 c177 c178 c179 c180 c181 c182 c183 c184 c185 c186 c187 c188 c189 c190 c191 c192 c193 c194 c195 c196 c197 c198 c199 c200 c201 c202 c203 c204 c205 c206 : Value) :
    lawE.wp Ybaz.prog (bodyPost Ybaz.prog Ybaz.f3 R) ⟨#[c0, c1, c2, c3, c4, c5, c6, c7, c8, c9, c10, .slice (some ⟨sb, 0, none⟩) S.length sc, c12, c13, .int .i64 step, .slice (some ⟨ob, 0, none⟩) X.length oc, c16, c17, .int .i64 lo, .int .i64 hi, .slice (some ⟨g1, 0, none⟩) S.length c1', .slice (some ⟨g2, 0, none⟩) S.length c2', c22, c23, c24, c25, c26, c27, c28, c29, c30, c31, c32, c33, c34, c35, c36, c37, c38, c39, c40, c41, c42, c43, c44, c45, c46, c47, c48, c49, c50, c51, c52, c53, c54, c55, c56, c57, c58, c59, c60, c61, c62, c63, c64, c65, c66, c67, c68, c69, c70, c71, c72, c73, c74, c75, c76, c77, c78, c79, c80, c81, c82, c83, c84, c85, c86, c87, c88, c89, c90, c91, c92, c93, c94, c95, c96, c97, c98, c99, c100, c101, c102, c103, c104, c105, c106, c107, c108, c109, c110, c111, c112, c113, c114, c115, c116, c117, c118, c119, c120, c121, c122, c123, c124, c125, c126, c127, c128, c129, c130, c131, c132, c133, c134, c135, c136, c137, c138, c139, c140, c141, c142, c143, c144, c145, c146, c147, c148, c149, c150, c151, c152, c153, c154, c155, c156, c157, c158, c159, c160, c161, c162, c163, c164, c165, c166, c167, c168, c169, c170, c171, c172, c173, c174, c175, c176, c177, c178, c179, c180, c181, c182, c183, c184, c185, c186, c187, c188, c189, c190, c191, c192, c193, c194, c195, c196, c197, c198, c199, c200, c201, c202, c203, c204, c205, c206], []⟩ w := by
  have hok : ∀ k : Nat, dueAt X step (lo + k) ≠ [] → Ok S.length (rmap S (dueAt X step (lo + k))) := fun k h0 => ok_rmap h0 (fun x hx => by
    obtain ⟨y, hy, e⟩ := dueAt_mem hx
    rw [← e]; exact hXS y hy) (by have := dueAt_len X step (lo + k); omega)
  have hcl := fun k => (comp_ok (R := rmap S) (E := fun i => dueAt X step (lo + i)) (n := S.length) hok k)
  have hAR : Aside (∀ w', Below B w0 w' → R (.returned (.bool true)) w') := hR
  have hA : Aside (SmsAt w sb S ∧ SerAt w ob X step ∧ (∀ x ∈ X, x.2 ∈ S) ∧ (∀ x ∈ X, -3000000000 ≤ x.1 ∧ x.1 ≤ 3000000000) ∧ (∀ k : Nat, dueAt X step (lo + k) ≠ [] → Ok S.length (rmap S (dueAt X step (lo + k)))) ∧ (∀ k, Ok S.length (comp (rmap S) (fun i => dueAt X step (lo + i)) S.length k)) ∧ MapAt w (.slice (some ⟨g1, 0, none⟩) S.length c1') (comp (rmap S) (fun i => dueAt X step (lo + i)) S.length n)) := ⟨hS, hO, hXS, hXr, hok, hcl, h1⟩
  have hsb := hS.lt
  have hSf := hS.few
  have hS0 := hS.pos
  obtain ⟨i3, hi3, hz30, hz31, hz32⟩ := info_parts info39
  have hA3 : Aside (Ybaz.prog.info? 39 = some i3 ∧ i3.zero = some (.agg #[.float .f64 0, .int .i64 0]) ∧ i3.size = 2 ∧ i3.bytes = 16) := ⟨hi3, hz30, hz31, hz32⟩
  clear hS hO hXS hXr hok hcl h1 hR hi3 hz30 hz31 hz32
  conv => arg 2; whnf
  go_wp2
  rename_i K1 hK1
  have hK1' : Aside (∀ (a : Act) (w : World), _ → K1 a w) := hK1
  clear hK1
  go_loopg [21, 23] (n + 1) (fun q vm vt wr => ∃ k mb mc : Nat, vm = .slice (some ⟨mb, 0, none⟩) S.length mc ∧ vt = .int .i64 (lo + k) ∧ k ≤ n ∧ n - k < q ∧ Below w.heap.size w wr ∧ MapAt wr (.slice (some ⟨mb, 0, none⟩) S.length mc) (comp (rmap S) (fun i => dueAt X step (lo + i)) S.length k))
  case atStart => exact ⟨0, g2, c2', rfl, by simp, Nat.zero_le _, by omega, Below.refl _ _, h2⟩
  case round =>
    obtain ⟨k, mb, mc, rfl, rfl, hkn, hq, hbk, hmk⟩ := hrel
    rename World => wq
    by_cases hlt : k < n
    · have hlt' : lo + (k : Int) < hi := by omega
      have hAm : Aside (MapAt wq (.slice (some ⟨mb, 0, none⟩) S.length mc) (comp (rmap S) (fun i => dueAt X step (lo + i)) S.length k)) := hmk
      have hsz := hbk.size
      clear hmk
      go_wp2
      go_loopg [24, 136] (X.length + 1) (fun q ve vi wr => ∃ i : Nat, vi = .int .i64 i ∧ i ≤ X.length ∧ X.length - i < q ∧ Below wq.heap.size wq wr ∧ wr.ownsRow wq.heap.size 39 2 ve (dueAt (X.take i) step (lo + k)).length ((dueAt (X.take i) step (lo + k)).flatMap encB))
      case atStart => exact ⟨0, rfl, Nat.zero_le _, by omega, Below.refl _ _, by simpa [dueAt] using World.ownsRow_nil wq wq.heap.size 39 2⟩
      case round =>
        obtain ⟨i, rfl, hiX, hq2, hbx, hrow⟩ := hrel
        obtain ⟨ep, ec, rfl⟩ := own_form hrow
        have hszx := hbx.size
        by_cases hix : i < X.length
        · obtain ⟨x, hx⟩ : ∃ x, X[i]? = some x := ⟨_, List.getElem?_eq_getElem hix⟩
          obtain ⟨o0, o1, o2⟩ := hA.out.2.1 i x hx
          have hbb := hbk.trans (hbx.mono hsz)
          have p0 := (hbb.cell (p := ⟨ob, i * 3, none⟩) hob).trans o0
          have p1 := (hbb.cell (p := ⟨ob, i * 3 + 1, none⟩) hob).trans o1
          have p2 := (hbb.cell (p := ⟨ob, i * 3 + 2, none⟩) hob).trans o2
          have hx1 := hA.out.2.2.2.1 x (List.mem_of_getElem? hx)
          have hlt2 : (i : Int) < (X.length : Int) := by omega
          have htk := dueAt_take X step (lo + k) i x hx
          have hEl := dueAt_len (X.take i) step (lo + k)
          have hEl2 := List.length_take_le i X
          have hArow : Aside (wr.ownsRow wq.heap.size 39 2 (.slice ep (dueAt (X.take i) step (lo + k)).length ec) (dueAt (X.take i) step (lo + k)).length ((dueAt (X.take i) step (lo + k)).flatMap encB)) := hrow
          obtain ⟨xf, xs⟩ := x
          simp only at p0 p2 hx1 htk
          have hwr : IntKind.i64.wrap (xf - (lo + k)) = xf - (lo + k) := by rw [IntWalk.i64_left]; exact IntWalk.wrap64_in _ (by omega)
          have hwr2 : wrap64 (xf - (lo + k)) = xf - (lo + k) := IntWalk.wrap64_in _ (by omega)
          have hbA : Below wq.heap.size wq (wr.alloc (.cells #[.int .i64 xf, .int .i64 step, .int .i64 xs] 32)) := hbx.alloc hszx _
          clear hrow o0 o1 o2 hx hbb
          have hz := zmod (xf - (lo + k)) step (wr.alloc (.cells #[.int .i64 xf, .int .i64 step, .int .i64 xs] 32)) (by omega) (by omega)
          by_cases hdue : (xf - (lo + k)) % (step : Int) = 0
          · rw [if_pos hdue] at htk
            rw [hdue] at hz
            clear hwr2
            go_wp2_with (first | (go_at_call 7; refine hz.mono ?_; rintro e w' ⟨rfl, hw'⟩; rw [hw']; clear hw' w') | (at_builtin; refine Veil.off ?_))
            unfold Veil
            have hnew : ((wr.alloc (.cells #[.int .i64 xf, .int .i64 step, .int .i64 xs] 32)).alloc (.cells #[.float .f64 0, .int .i64 xs] 39)).heap[wr.heap.size + 1]? = some (.cells #[.float .f64 0, .int .i64 xs] 39 (0, 0)) := by rw [alloc_at, if_pos (by simp)]
            refine wpList_append_own_at _ rfl (.tmp 147) (.tmp 151) 35 rfl wq.heap.size 39 i3 (.agg #[.float .f64 0, .int .i64 0]) 2 16 Ybaz.underlying35 hA3.out.1 hA3.out.2.1 hA3.out.2.2.1 hA3.out.2.2.2 rfl (by decide) (.slice ep (dueAt (X.take i) step (lo + k)).length ec) (dueAt (X.take i) step (lo + k)).length _ rfl ((hArow.out.alloc _).alloc _) ⟨wr.heap.size + 1, 0, none⟩ 1 1 (encB xs) rfl rfl ?a1 ?a2 ?a3 ?a4 ?a5 ?_
            case a1 =>
              intro j u hj
              rw [Addr.add_mid, Nat.zero_add, Joins.cell_of_block hnew]
              simpa [encB] using hj
            case a2 =>
              intro u hu
              simp [encB] at hu
              rcases hu with rfl | rfl <;> rfl
            case a3 => simp [maxLen]; omega
            case a4 => omega
            case a5 => simp; omega
            intro v2 w2 hown2 hgrow _ _
            have hb2 : Below wq.heap.size wq w2 := (hbA.alloc (by simp; omega) _).grown hgrow (by simp; omega) (fun j e => (hArow.out.lt j e).1)
            obtain ⟨g2', cp2, hv2e⟩ := Joins.ownsRow_form hown2 (by omega)
            subst hv2e
            have hAo : Aside (w2.ownsRow wq.heap.size 39 2 (.slice (some ⟨g2', 0, none⟩) ((dueAt (X.take i) step (lo + k)).length + 1) cp2) (dueAt (X.take (i + 1)) step (lo + k)).length ((dueAt (X.take (i + 1)) step (lo + k)).flatMap encB)) := by
              have h9 : w2.ownsRow wq.heap.size 39 2 (.slice (some ⟨g2', 0, none⟩) ((dueAt (X.take i) step (lo + k)).length + 1) cp2) (dueAt (X.take (i + 1)) step (lo + k)).length ((dueAt (X.take (i + 1)) step (lo + k)).flatMap encB) := by
                rw [htk, List.length_append, List.flatMap_append]
                simpa using hown2
              exact h9
            clear hown2 hgrow hnew htk
            go_wp2
            go_roundg (X.length - i)
            case measure => omega
            case rel => exact ⟨i + 1, by go_num, by omega, by omega, hb2, hAo.out⟩
          · rw [if_neg hdue, List.append_nil] at htk
            go_wp2_with (go_at_call 7; refine hz.mono ?_; rintro e w' ⟨rfl, hw'⟩; rw [hw']; clear hw' w')
            go_roundg (X.length - i)
            case measure => omega
            case rel => exact ⟨i + 1, by go_num, by omega, by omega, hbA, by rw [htk]; exact hArow.out.alloc _⟩
        · obtain rfl : i = X.length := by omega
          simp only [List.take_length] at hrow ⊢
          have hAr := hAm.out.below hbx (Nat.le_refl _)
          have hbr := hbk.trans (hbx.mono hsz)
          have hnum : lo + (k : Int) + 1 = lo + ((k + 1 : Nat) : Int) := by omega
          by_cases hE : dueAt X step (lo + k) = []
          · rw [hE] at hrow ⊢
            have hfin : comp (rmap S) (fun i => dueAt X step (lo + i)) S.length (k + 1) = comp (rmap S) (fun i => dueAt X step (lo + i)) S.length k := by
              rw [comp_succ]
              unfold stepf
              rw [if_pos hE]
            have hAf : Aside (MapAt wr (.slice (some ⟨mb, 0, none⟩) S.length mc) (comp (rmap S) (fun i => dueAt X step (lo + i)) S.length (k + 1)) ∧ lo + (k : Int) + 1 = lo + ((k + 1 : Nat) : Int)) := ⟨by rw [hfin]; exact hAr, hnum⟩
            clear hfin hrow hE hAr hnum
            go_wp2
            go_roundg (n - k)
            case measure => omega
            case rel => exact ⟨k + 1, mb, mc, rfl, congrArg _ hAf.out.2, by omega, by omega, hbr, hAf.out.1⟩
          · have hEl := dueAt_len X step (lo + k)
            have hE0 : (dueAt X step (lo + k)).length ≠ 0 := fun e => hE (List.length_eq_zero_iff.1 e)
            obtain ⟨eb, rfl⟩ : ∃ eb, ep = some ⟨eb, 0, none⟩ := by
              rcases hrow.2 with ⟨e, e2⟩ | ⟨g, cp, cur, e, _⟩
              · exact absurd e2 hE0
              · cases e
                exact ⟨_, rfl⟩
            have heb := hrow.lt eb rfl
            have hES : ∀ x ∈ dueAt X step (lo + k), x ∈ S := fun x hx => by
              obtain ⟨y, hy, e⟩ := dueAt_mem hx
              rw [← e]
              exact hA.out.2.2.1 y hy
            have hrf := refillMap sb sc eb ec S (dueAt X step (lo + k)) wr (hA.out.1.below hbr hsb) (by omega) heb.2 (holds_of_row hrow) hE hES (by omega)
            have hmb : mb < wq.heap.size := by
              obtain ⟨g, c, e, h, _⟩ := hAm.out
              injection e with e1
              injection e1 with e1
              injection e1 with e1
              rw [e1]
              exact h
            have hAE : Aside (dueAt X step (lo + k) ≠ [] ∧ lo + (k : Int) + 1 = lo + ((k + 1 : Nat) : Int)) := ⟨hE, hnum⟩
            clear hrow hES hE hnum
            go_wp2_with (go_at_call 8; refine hrf.mono ?_; rintro e w3 ⟨v3, rfl, hm3, hbut3, hq3⟩; refine Veil.off ?_)
            unfold Veil
            clear hrf
            obtain ⟨zc, hzs, hmkr⟩ := make25 w3 S.length hSf
            have hokR := hA.out.2.2.2.2.1 k hAE.out.1
            have hokM := hA.out.2.2.2.2.2.1 k
            have hm2 := hAr.of_but hbut3 (by simp [Value.ownBlock]; omega)
            have hbw3 : Below w.heap.size w w3 := hbr.trans (hbut3.low.mono (by omega))
            have hszw3 := hbw3.size
            have hcomp : comp (rmap S) (fun i => dueAt X step (lo + i)) S.length (k + 1) = thenL (comp (rmap S) (fun i => dueAt X step (lo + i)) S.length k) (rmap S (dueAt X step (lo + k))) := by
              rw [comp_succ]
              unfold stepf
              rw [if_neg hAE.out.1]
            have hcm : mb < w3.heap.size ∧ ∀ j x : Nat, (comp (rmap S) (fun i => dueAt X step (lo + i)) S.length k)[j]? = some x → w3.cell? ⟨mb, j, none⟩ = some (.int .i64 x) := by
              obtain ⟨g, c, e, h, h'⟩ := hm2
              injection e with e1
              injection e1 with e1
              injection e1 with e1
              rw [e1]
              exact ⟨h, h'⟩
            obtain ⟨db, dc, hv3, hdb, hdc⟩ := hm3
            rw [hokR.len] at hv3
            subst hv3
            have hAc : Aside (comp (rmap S) (fun i => dueAt X step (lo + i)) S.length (k + 1) = thenL (comp (rmap S) (fun i => dueAt X step (lo + i)) S.length k) (rmap S (dueAt X step (lo + k)))) := hcomp
            clear hcomp hm2 hAr hbut3 hq3 hbr
            generalize comp (rmap S) (fun i => dueAt X step (lo + i)) S.length k = f at *
            generalize rmap S (dueAt X step (lo + k)) = d at *
            have hAd : Aside ((∀ j x : Nat, d[j]? = some x → w3.cell? ⟨db, j, none⟩ = some (.int .i64 x)) ∧ ∀ j x : Nat, f[j]? = some x → w3.cell? ⟨mb, j, none⟩ = some (.int .i64 x)) := ⟨hdc, hcm.2⟩
            have hmb3 := hcm.1
            have hfl := hokM.len
            have hdl := hokR.len
            clear hdc hcm
            go_wp2
            clear hmkr
            go_loopg [165] (S.length + 1) (fun q vi wx => ∃ i : Nat, vi = .int .i64 i ∧ i ≤ S.length ∧ S.length - i < q ∧ Filling w3 wx w3.heap.size S.length i (fun j => (thenL f d).getD j 0))
            case atStart => exact ⟨0, rfl, Nat.zero_le _, by omega, (Below.refl _ _).alloc (Nat.le_refl _) _, zc, by rw [alloc_at, if_pos rfl], hzs, fun j hj => absurd hj (Nat.not_lt_zero _)⟩
            case round =>
              obtain ⟨i, rfl, hiS, hq6, hF⟩ := hrel
              by_cases hil : i < S.length
              · have A : Aside (Filling w3 wr w3.heap.size S.length i (fun j => (thenL f d).getD j 0)) := hF
                obtain ⟨hbF, cu, hcu, hs, hdF⟩ := hF
                have hil' : (i : Int) < (S.length : Int) := by omega
                have hilf : i < f.length := by omega
                have hj : f[i]? = some f[i] := List.getElem?_eq_getElem hilf
                have hjg : f[i] < d.length := by rw [hdl]; exact hokM.lt _ (List.getElem_mem hilf)
                have hj2 : d[f[i]]? = some d[f[i]] := List.getElem?_eq_getElem hjg
                have c1 : wr.cell? ⟨mb, i, none⟩ = some (.int .i64 f[i]) := (hbF.cell (p := ⟨mb, i, none⟩) hmb3).trans (hAd.out.2 i _ hj)
                have c2 : wr.cell? ⟨db, f[i], none⟩ = some (.int .i64 d[f[i]]) := (hbF.cell (p := ⟨db, f[i], none⟩) hdb).trans (hAd.out.1 _ _ hj2)
                have hc1 : wr.cell? ⟨w3.heap.size, i, none⟩ = some cu[i] := (Joins.cell_of_block hcu _).trans (by simp [hs, hil])
                have hf1 := Joins.unfrozen_of_block hcu i
                have hval : (thenL f d).getD i 0 = d[f[i]] := by simp [thenL, List.getD, hilf, hjg]
                clear hbF hcu hdF hj hj2
                generalize cu[i] = old at hc1
                generalize f[i] = x at *
                have hx0 : (0 : Int) ≤ (x : Int) := by omega
                have hjg' : (x : Int) < (S.length : Int) := by omega
                generalize d[x] = y at *
                go_wp2
                go_roundg (S.length - i)
                case measure => omega
                case rel =>
                  refine ⟨i + 1, by go_num, by omega, by omega, ?_⟩
                  have := A.out.step hil
                  simp only [hval] at this
                  exact this
              · obtain rfl : i = S.length := by omega
                have hdone : MapAt wr (.slice (some ⟨w3.heap.size, 0, none⟩) S.length S.length) (thenL f d) := by
                  have h2 := hF
                  rw [← hfl, ← thenL_length f d] at h2
                  have := h2.done S.length
                  rw [thenL_length, hfl] at this
                  exact this
                rw [← hAc.out] at hdone
                have hbF := hF.below
                have hAz : Aside (MapAt wr (.slice (some ⟨w3.heap.size, 0, none⟩) S.length S.length) (comp (rmap S) (fun i => dueAt X step (lo + i)) S.length (k + 1)) ∧ Below w3.heap.size w3 wr) := ⟨hdone, hbF⟩
                clear hF hdone hbF
                go_wp2
                go_roundg (n - k)
                case measure => omega
                case rel => exact ⟨k + 1, _, _, rfl, congrArg _ hAE.out.2, by omega, by omega, hbw3.trans (hAz.out.2.mono hszw3), hAz.out.1⟩
    · obtain rfl : k = n := by omega
      have hge : ¬ (lo + (k : Int) < hi) := by omega
      go_wp2
      have hlen := (hA.out.2.2.2.2.2.1 k).len
      have hF := law_F g1 c1' mb mc (comp (rmap S) (fun i => dueAt X step (lo + i)) S.length k) w0 wq B (hb.trans (hbk.mono hB)) (by rw [hlen]; exact hA.out.2.2.2.2.2.2.below hbk (Nat.le_refl _)) (by rw [hlen]; exact hmk) (by omega) R hAR.out
      rw [hlen] at hF
      exact hK1'.out _ _ (hF _ _ _ _ _ _ _ _ _ _ _ _ _ _ _ _ _ _ _ _ _ _ _ _ _ _ _ _ _ _ _ _ _ _ _ _ _ _ _ _ _ _ _ _ _ _ _ _ _ _ _ _ _ _ _ _ _ _ _ _ _ _ _ _ _ _ _ _ _ _ _ _ _ _ _ _ _ _ _ _ _ _ _ _ _ _ _ _ _ _ _ _ _ _ _ _ _ _ _ _ _ _ _ _ _ _ _ _ _ _ _ _ _ _ _ _ _ _ _ _ _ _ _ _ _ _ _ _ _ _ _ _ _ _ _ _ _ _ _ _ _ _ _ _ _ _ _ _ _ _ _ _ _ _ _ _ _ _ _ _ _ _ _ _ _ _ _ _ _ _ _ _ _ _ _ _ _ _ _ _ _ _ _ _ _ _ _ _ _ _ _ _ _ _ _ _ _ _ _ _ _ _ _ _ _)
end Go.Proofs.YbulkcemcGreat
