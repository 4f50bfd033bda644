/-
  LawS4037BPicks: THE WALK, its middle part: the peer, the call, the list that is wanted (seat b4037a).
-/
import Derived.Test.YbulkceouPicks3
import Derived.Deep.DeepCutAuto
namespace Go.Proofs.Ybulkceou
open Go.RowKit
attribute [local go_sem] fold48 size_oc

noncomputable def tB : Code := (Yba.f3.body.bind (fromR 13)).getD .skip

set_option maxRecDepth 100000 in
set_option maxHeartbeats 1000000 in
theorem picks_B (o0 o1 o2 j0 j1 j2 pin sel : Int) (b0 b1 b2 ent fol : Bool) (w wr wc : World) (k : Nat) (P : Nat → Option Nat) (eq : Option Nat) (c26 c27 c28 c29 c30 c31 c32 c33 c34 c35 c36 c37 c38 c39 c40 c41 c42 c43 c44 c45 c46 c47 c48 c49 c50 c51 c52 c53 c54 c55 c56 c57 c58 c59 c60 c61 c62 c63 c64 c65 c66 c67 c68 c69 c70 c71 c72 c73 c74 c75 c76 c77 c78 c79 c80 c81 c82 c83 c84 c85 c86 c87 c88 c89 c90 c91 c92 c93 c94 c95 c96 c97 c98 c99 c100 c101 c102 c103 c104 c105 c106 c107 c108 c109 c110 c111 c112 c113 c114 c115 c116 c117 c118 c119 c120 c121 c122 c125 c126 c127 c128 c129 c130 c131 c132 c133 c134 c135 c136 c137 c138 c139 c140 c141 c142 c143 c144 c145 c146 c147 c148 c149 c150 c151 c152 c153 c154 c155 c156 c157 c158 c159 c160 c161 c162 c163 c164 c165 c166 c167 c168 c169 c170 c171 c172 c173 c174 c175 c176 c177 c178 c179 c180 c181 c182 c183 c184 c185 c186 c187 c188 c189 c190 c191 c192 c193 c194 c195 c196 c197 c198 c199 c200 c201 c202 c203 c204 c205 c206 c207 c208 c209 c210 c211 c212 c213 c214 c215 c216 c217 c218 : Value)
    (heq : eq.isSome = ent) (hb1 : Below wr.heap.size wr wc) (hk3 : sel % 3 = (k : Int)) (hkl : k < 3)
    (A : Aside (BR w (p3 o0 o1 o2) (p3 j0 j1 j2) (p3 b0 b1 b2) P 3 wr)) :
    Code.wp Yba.prog tB (bodyPost Yba.prog Yba.f3 fun e w' => e = .returned (.bool true) ∧ Below w.heap.size w w') ⟨#[.agg #[.int .u64 o0, .int .u64 o1, .int .u64 o2], .agg #[.int .u64 j0, .int .u64 j1, .int .u64 j2], .agg #[.bool b0, .bool b1, .bool b2], .int .u64 pin, .bool ent, .bool fol, .int .u8 sel, .pointer (some ⟨w.heap.size, 0, none⟩), .pointer (some ⟨w.heap.size + 1, 0, none⟩), .pointer (some ⟨w.heap.size + 1 + 1, 0, none⟩), undef, undef, undef, undef, .bool false, .int .i64 (sel % 3), .pointer (some ⟨w.heap.size + 1 + 1 + 1, 0, none⟩), .slice (some ⟨w.heap.size + 1 + 1 + 1 + 1, 0, none⟩) 3 3, .int .i64 3, .pointer (ap eq), .pointer none, undef, undef, undef, undef, undef, c26, c27, c28, c29, c30, c31, c32, c33, c34, c35, c36, c37, c38, c39, c40, c41, c42, c43, c44, c45, c46, c47, c48, c49, c50, c51, c52, c53, c54, c55, c56, c57, c58, c59, c60, c61, c62, c63, c64, c65, c66, c67, c68, c69, c70, c71, c72, c73, c74, c75, c76, c77, c78, c79, c80, c81, c82, c83, c84, c85, c86, c87, c88, c89, c90, c91, c92, c93, c94, c95, c96, c97, c98, c99, c100, c101, c102, c103, c104, c105, c106, c107, c108, c109, c110, c111, c112, c113, c114, c115, c116, c117, c118, c119, c120, c121, c122, undef, undef, c125, c126, c127, c128, c129, c130, c131, c132, c133, c134, c135, c136, c137, c138, c139, c140, c141, c142, c143, c144, c145, c146, c147, c148, c149, c150, c151, c152, c153, c154, c155, c156, c157, c158, c159, c160, c161, c162, c163, c164, c165, c166, c167, c168, c169, c170, c171, c172, c173, c174, c175, c176, c177, c178, c179, c180, c181, c182, c183, c184, c185, c186, c187, c188, c189, c190, c191, c192, c193, c194, c195, c196, c197, c198, c199, c200, c201, c202, c203, c204, c205, c206, c207, c208, c209, c210, c211, c212, c213, c214, c215, c216, c217, c218], []⟩ wc := by
  conv => arg 2; whnf
  obtain ⟨wa, rfl⟩ : ∃ wa : World, wa = wc := ⟨_, rfl⟩
  go_upto_if 63 with fail
  go_cut [20] (fun v wx => ∃ fq : Option Nat, v = .pointer (ap fq) ∧ fq.isSome = fol ∧ Below wa.heap.size wa wx)
  case first =>
    cases fol with
    | false =>
      go_wp2
      go_meet
      case rel => exact ⟨none, rfl, rfl, Below.refl _ _⟩
    | true =>
      go_wp2
      go_meet
      case rel => exact ⟨some _, rfl, rfl, (Below.refl _ _).alloc (Nat.le_refl _) _⟩
  case rest =>
    obtain ⟨fq, rfl, hfq, hb2⟩ := hcut
    obtain ⟨wp, rfl⟩ : ∃ wp : World, wp = wc := ⟨_, rfl⟩
    have hBR0 := A.out.later (hb1.trans (hb2.mono hb1.size))
    have hszc := (hBR0.at 0 (by omega)).size
    have Hbc : Aside (Below wr.heap.size wr wp) := hb1.trans (hb2.mono hb1.size)
    have Hs : Aside (eq.isSome = ent ∧ fq.isSome = fol ∧ BR w (p3 o0 o1 o2) (p3 j0 j1 j2) (p3 b0 b1 b2) P 3 wp) := ⟨heq, hfq, hBR0⟩
    clear hb1 hb2 heq hfq hBR0 A
    have hcl : ∀ o : Obj, Below wp.heap.size wp (wp.alloc o) := fun o => (Below.refl _ _).alloc (Nat.le_refl _) _
    go_wp2_with fail
    refine (changes_any wp.heap.size (w.heap.size + 1 + 1 + 1 + 1) k (P k) eq fq (p3 o0 o1 o2 k) (p3 j0 j1 j2 k) pin hkl _ ?hmem).mono ?_
    case hmem =>
      have hat : ∀ o : Obj, At w (p3 o0 o1 o2) (p3 j0 j1 j2) (p3 b0 b1 b2) P k (wp.alloc o) := fun o => (Hs.out.2.2.later (hcl o)).at k hkl
      exact ⟨by simp, by simp; omega, by simp [go_sem], (hat _).c27, (hat _).c18, (hat _).ct, by simp [go_sem, vp], by simp [go_sem, vp], by simp [go_sem]⟩
    rintro e wg ⟨vg, rfl, hgot, hbg⟩
    have q5 : wg.cell? ⟨wp.heap.size, 5, none⟩ = some (.slice (some ⟨w.heap.size + 1 + 1 + 1 + 1, 0, none⟩) 3 3) := (hbg.cell (p := ⟨wp.heap.size, 5, none⟩) (by simp)).trans (by simp [go_sem])
    have q19 : wg.cell? ⟨wp.heap.size, 19, none⟩ = some (.int .u64 pin) := (hbg.cell (p := ⟨wp.heap.size, 19, none⟩) (by simp)).trans (by simp [go_sem])
    have q23 : wg.cell? ⟨wp.heap.size, 23, none⟩ = some (.pointer (ap eq)) := (hbg.cell (p := ⟨wp.heap.size, 23, none⟩) (by simp)).trans (by simp [go_sem])
    have q24 : wg.cell? ⟨wp.heap.size, 24, none⟩ = some (.pointer (ap fq)) := (hbg.cell (p := ⟨wp.heap.size, 24, none⟩) (by simp)).trans (by simp [go_sem])
    have hQ : wp.heap.size < wg.heap.size := by have := hbg.size; simp at this; omega
    have hbw : Below wp.heap.size wp wg := (hcl _).trans (hbg.mono (by simp))
    obtain ⟨ga, gc, hvg⟩ : ∃ ga gc, vg = .slice ga (picks (P k) (decide (p3 o0 o1 o2 k < p3 j0 j1 j2 k)) eq (decide (p3 o0 o1 o2 k < pin)) fq).length gc := by
      rcases hgot.2 with ⟨e1, e2⟩ | ⟨g, cp, cur, e1, _⟩
      · exact ⟨none, 0, by rw [e1, e2]⟩
      · exact ⟨_, cp, e1⟩
    subst hvg
    have hBRg := Hs.out.2.2.later hbw
    have hatk := hBRg.at k hkl
    obtain ⟨sk, co, cj, cb, ca, _, _, _, his⟩ := hatk
    have G : Aside (BR w (p3 o0 o1 o2) (p3 j0 j1 j2) (p3 b0 b1 b2) P 3 wg ∧ Below wp.heap.size wp wg ∧ wg.ownsRow (wp.heap.size + 1) 25 1 (.slice ga (picks (P k) (decide (p3 o0 o1 o2 k < p3 j0 j1 j2 k)) eq (decide (p3 o0 o1 o2 k < pin)) fq).length gc) (picks (P k) (decide (p3 o0 o1 o2 k < p3 j0 j1 j2 k)) eq (decide (p3 o0 o1 o2 k < pin)) fq).length ((picks (P k) (decide (p3 o0 o1 o2 k < p3 j0 j1 j2 k)) eq (decide (p3 o0 o1 o2 k < pin)) fq).map vp)) := ⟨hBRg, hbw, by simpa using hgot⟩
    have His : Aside ((P k).isSome = p3 b0 b1 b2 k) := his
    clear hgot hbg hbw hBRg his hcl
    generalize p3 o0 o1 o2 k = ok at *
    generalize p3 j0 j1 j2 k = jk at *
    generalize p3 b0 b1 b2 k = bk at *
    simp only [vp] at ca
    have Hpk := picks_eq (P k) (decide (ok < jk)) eq (decide (ok < pin)) fq
    generalize picks (P k) (decide (ok < jk)) eq (decide (ok < pin)) fq = L at *
    obtain ⟨L1, HL1⟩ : ∃ L1, Aside (pk1 (P k) (decide (ok < jk)) eq (decide (ok < pin)) = L1) := ⟨_, rfl⟩
    obtain ⟨tb, htb⟩ : ∃ tb, Aside ((bk && decide (ok < jk)) = tb) := ⟨_, rfl⟩
    have HL : Aside (L = L1 ++ (if fq.isSome then [fq] else [])) := by rw [← HL1.out]; exact Hpk
    have Hent : Aside (eq.isSome = ent) := Hs.out.1
    have Hfol : Aside (fq.isSome = fol) := Hs.out.2.1
    clear Hpk Hs
    go_upto_region 18 with fail
    go_cut [93] (fun v wx => v = .bool tb ∧ ∃ n, wx = wg.drewN n)
    case first =>
      cases bk with
      | false =>
        go_quiet (fail)
        go_wp2
        go_meet
        case rel => exact ⟨congrArg Value.bool (by simpa using htb.out), _, rfl⟩
      | true =>
        go_quiet (fail)
        go_wp2
        go_meet
        case rel => exact ⟨congrArg Value.bool (by simpa using htb.out), _, rfl⟩
    case rest =>
      obtain ⟨rfl, n1, rfl⟩ := hcut
      obtain ⟨i1, hi1, hy0, hy1, hy2⟩ := info_parts Yba.info25
      go_upto_if 93 with fail
      go_cut [23] (fun v wx => ∃ (l : List (Option Nat)) (a : Option Addr) (c : Nat), pk1 (P k) (decide (ok < jk)) eq (decide (ok < pin)) = l ∧ v = .slice a l.length c ∧ wx.ownsRow wg.heap.size 25 1 v l.length (l.map vp) ∧ Below wg.heap.size wg wx)
      case first =>
        cases tb with
        | true =>
          have Hj : Aside (pk1 (P k) (decide (ok < jk)) eq (decide (ok < pin)) = [P k]) := by
            have h := htb.out
            simp only [Bool.and_eq_true] at h
            show pk1 _ _ _ _ = _
            simp [pk1, His.out, h.1, h.2]
          go_wp2_with (at_builtin; refine wpList_append_own _ rfl (.tmp 94) (.tmp 98) 65 rfl wg.heap.size 25 i1 (.pointer none) 1 8 Yba.underlying65 hi1 hy0 hy1 hy2 rfl (by decide) _ _ _ rfl (World.ownsRow_nil _ _ _ _) ⟨wg.heap.size, 0, none⟩ 1 1 [.pointer (ap (P k))] rfl rfl ?c1 ?c2 ?c3 ?c4 ?c5 ?_)
          case c1 => exact cell_one_new _ _ _
          case c2 => intro u hu; simp at hu; subst hu; rfl
          case c3 => decide
          case c4 => decide
          case c5 => simp
          intro v' w1 hown hgrow _
          have hb1 : Below wg.heap.size wg w1 := (((below_drewN wg.heap.size wg _).alloc (by simp) _).grown hgrow (by simp) (fun k h => by simp [Value.ownBlock] at h))
          obtain ⟨g, cp1, hv⟩ := Joins.ownsRow_form hown (by omega)
          have R : Aside (w1.ownsRow wg.heap.size 25 1 v' (0 + 1) ([] ++ [.pointer (ap (P k))]) ∧ Below wg.heap.size wg w1) := ⟨hown, hb1⟩
          clear hown hgrow hb1
          rw [hv]
          rw [hv] at R
          clear hv
          go_wp2
          go_meet
          case rel => exact ⟨[P k], _, _, Hj.out, rfl, R.out.1, R.out.2⟩
        | false =>
          have Hno : Aside (((P k).isSome && decide (ok < jk)) = false) := by rw [His.out]; exact htb.out
          cases ent with
          | false =>
            have Hj : Aside (pk1 (P k) (decide (ok < jk)) eq (decide (ok < pin)) = []) := by
              show pk1 _ _ _ _ = _
              unfold pk1
              rw [Hno.out, Hent.out]; rfl
            go_wp2
            go_meet
            case rel => exact ⟨[], _, _, Hj.out, rfl, World.ownsRow_nil _ _ _ _, below_drewN _ _ _⟩
          | true =>
            by_cases hel : ok < pin
            · have Hj : Aside (pk1 (P k) (decide (ok < jk)) eq (decide (ok < pin)) = [eq]) := by
                show pk1 _ _ _ _ = _
                unfold pk1
                rw [Hno.out, Hent.out]; simp [hel]
              go_wp2_with (at_builtin; refine wpList_append_own _ rfl (.tmp 108) (.tmp 110) 65 rfl wg.heap.size 25 i1 (.pointer none) 1 8 Yba.underlying65 hi1 hy0 hy1 hy2 rfl (by decide) _ _ _ rfl (World.ownsRow_nil _ _ _ _) ⟨wg.heap.size, 0, none⟩ 1 1 [.pointer (ap eq)] rfl rfl ?d1 ?d2 ?d3 ?d4 ?d5 ?_)
              case d1 => exact cell_one_new _ _ _
              case d2 => intro u hu; simp at hu; subst hu; rfl
              case d3 => decide
              case d4 => decide
              case d5 => simp
              intro v' w1 hown hgrow _
              have hb1 : Below wg.heap.size wg w1 := (((below_drewN wg.heap.size wg _).alloc (by simp) _).grown hgrow (by simp) (fun k h => by simp [Value.ownBlock] at h))
              obtain ⟨g, cp1, hv⟩ := Joins.ownsRow_form hown (by omega)
              have R : Aside (w1.ownsRow wg.heap.size 25 1 v' (0 + 1) ([] ++ [.pointer (ap eq)]) ∧ Below wg.heap.size wg w1) := ⟨hown, hb1⟩
              clear hown hgrow hb1
              rw [hv]
              rw [hv] at R
              clear hv
              go_wp2
              go_meet
              case rel => exact ⟨[eq], _, _, Hj.out, rfl, R.out.1, R.out.2⟩
            · have Hj : Aside (pk1 (P k) (decide (ok < jk)) eq (decide (ok < pin)) = []) := by
                show pk1 _ _ _ _ = _
                unfold pk1
                rw [Hno.out, Hent.out]; simp [hel]
              go_wp2
              go_meet
              case rel => exact ⟨[], _, _, Hj.out, rfl, World.ownsRow_nil _ _ _ _, below_drewN _ _ _⟩
      case rest =>
        obtain ⟨l1, wa1, wc1, hl1, rfl, hw1, hbw1⟩ := hcut
        have e1 : L1 = l1 := HL1.out.symm.trans hl1
        subst e1
        obtain ⟨wh, rfl⟩ : ∃ wh : World, wh = wc := ⟨_, rfl⟩
        have hl1len : L1.length ≤ 1 := by rw [← HL1.out]; unfold pk1; split <;> (try split) <;> simp
        have Hw1 : Aside (wh.ownsRow wg.heap.size 25 1 (.slice wa1 L1.length wc1) L1.length (L1.map vp) ∧ Below wg.heap.size wg wh) := ⟨hw1, hbw1⟩
        have hszh := hbw1.size
        have Hb1 : Aside (L1.length + 1 ≤ maxLen) := by show _ ≤ _; unfold maxLen; omega
        have Hb2 : Aside ((L1.length + 1) * 8 ≤ 140737488355328) := by show _ ≤ _; omega
        clear hw1 hbw1 hl1 htb HL1
        go_upto_if 112 with fail
        go_cut [23] (fun v wx => ∃ (l : List (Option Nat)) (a : Option Addr) (c : Nat), L = l ∧ v = .slice a l.length c ∧ wx.ownsRow wg.heap.size 25 1 v l.length (l.map vp) ∧ Below wg.heap.size wg wx)
        case first =>
          cases fol with
          | false =>
            have Hj : Aside (L = L1) := by
              have h := HL.out
              rw [Hfol.out] at h
              show L = L1
              simpa using h
            go_wp2
            go_meet
            case rel => exact ⟨L1, _, _, Hj.out, rfl, Hw1.out.1, Hw1.out.2⟩
          | true =>
            have Hj : Aside (L = L1 ++ [fq]) := by
              have h := HL.out
              rw [Hfol.out] at h
              show L = L1 ++ [fq]
              simpa using h
            go_wp2_with (at_builtin; refine wpList_append_own _ rfl (.tmp 113) (.tmp 115) 65 rfl wg.heap.size 25 i1 (.pointer none) 1 8 Yba.underlying65 hi1 hy0 hy1 hy2 rfl (by decide) _ _ _ rfl (World.ownsRow.alloc Hw1.out.1 _) ⟨wh.heap.size, 0, none⟩ 1 1 [.pointer (ap fq)] rfl rfl ?g1 ?g2 Hb1.out Hb2.out ?g5 ?_)
            case g1 => exact cell_one_new _ _ _
            case g2 => intro u hu; simp at hu; subst hu; rfl
            case g5 => simp; omega
            intro v' w1 hown hgrow _
            have hb1 : Below wg.heap.size wg w1 := (Hw1.out.2.alloc (by omega) _).grown hgrow (by simp; omega) (fun k h => own_base Hw1.out.1 h)
            obtain ⟨g, cp1, hv⟩ := Joins.ownsRow_form hown (by omega)
            have R : Aside (w1.ownsRow wg.heap.size 25 1 v' (L1.length + 1) (L1.map vp ++ [.pointer (ap fq)]) ∧ Below wg.heap.size wg w1) := ⟨hown, hb1⟩
            clear hown hgrow hb1
            rw [hv]
            rw [hv] at R
            clear hv
            go_wp2
            go_meet
            case rel => exact ⟨L1 ++ [fq], some ⟨g, 0, none⟩, cp1, Hj.out, by simp, by simpa [vp] using R.out.1, R.out.2⟩
        case rest =>
          rename_i hK
          obtain ⟨l2, wa2, wc2, e2, rfl, hw2, hbw2⟩ := hcut
          subst e2
          obtain ⟨we, rfl⟩ : ∃ we : World, we = wc := ⟨_, rfl⟩
          have hsze := hbw2.size
          obtain ⟨hcg, _⟩ := bcell hbw2
          have hLlen : L.length ≤ 2 := by
            rw [HL.out, List.length_append]
            have : (if fq.isSome = true then [fq] else []).length ≤ 1 := by split <;> simp
            omega
          have cells : ∀ j x, L[j]? = some x → (∃ g, ga = some ⟨g, 0, none⟩ ∧ we.cell? ⟨g, j, none⟩ = some (.pointer (ap x))) ∧ ∃ g, wa2 = some ⟨g, 0, none⟩ ∧ we.cell? ⟨g, j, none⟩ = some (.pointer (ap x)) := fun j x hj => by
            have hm : (L.map vp)[j]? = some (vp x) := by rw [List.getElem?_map, hj]; rfl
            obtain ⟨g, e1, e2, e3⟩ := row_cell G.out.2.2 j _ hm
            obtain ⟨g', e1', e2', e3'⟩ := row_cell hw2 j _ hm
            exact ⟨⟨g, e1, (hcg _ _ e2).trans e3⟩, g', e1', e3'⟩
          have r5 := (hcg _ _ hQ).trans q5
          have r19 := (hcg _ _ hQ).trans q19
          have r23 := (hcg _ _ hQ).trans q23
          have r24 := (hcg _ _ hQ).trans q24
          have Hat : Aside (∀ i, i < 3 → At w (p3 o0 o1 o2) (p3 j0 j1 j2) (p3 b0 b1 b2) P i we) := fun i hi => (G.out.1.later hbw2).at i hi
          have Hfin : Aside (Below w.heap.size w we) := (G.out.1.later hbw2).below
          exact hK _ _ (picks_C o0 o1 o2 j0 j1 j2 pin sel b0 b1 b2 ent fol w we k wp.heap.size P eq fq L ga wa2 gc wc2 _ _ _ _ _ _ _ _ _ _ _ _ _ _ _ _ _ _ _ _ _ _ _ _ _ _ _ _ _ _ _ _ _ _ _ _ _ _ _ _ _ _ _ _ _ _ _ _ _ _ _ _ _ _ _ _ _ _ _ _ _ _ _ _ _ _ _ _ _ _ _ _ _ _ _ _ _ _ _ _ _ _ _ _ _ _ _ _ _ _ _ _ _ _ _ _ _ _ _ _ _ _ _ _ _ _ _ _ _ _ _ _ _ _ _ _ _ _ _ _ _ _ _ _ _ _ _ _ _ _ _ _ _ _ _ _ _ _ _ _ _ _ _ _ _ _ _ _ _ _ _ _ _ _ _ _ _ _ _ _ _ _ _ _ _ _ _ _ _ _ _ _ _ _ _ _ _ _ _ _ _ _ _ _ _ _ _ _ _ _ _ hLlen cells r5 r19 r23 r24 Hat Hfin)
end Go.Proofs.Ybulkceou
