/-
  LawS4032CSingleStep: 'refillsOver': its second loop (seat b4032aZ).
-/
import Derived.Test.YbulkcemcGreatRoverC
namespace Go.Proofs.YbulkcemcGreat
open Go.RowKit

noncomputable def roB : Code := (Ybaz.f6.body.bind (fromR 7)).getD .skip

/-- The series in memory. -/
def SerAt (w : World) (ob : Nat) (X : Ser) (step : Nat) : Prop := ∀ j x, X[j]? = some x → w.cell? ⟨ob, j * 3, none⟩ = some (.int .i64 x.1) ∧ w.cell? ⟨ob, j * 3 + 1, none⟩ = some (.int .i64 step) ∧ w.cell? ⟨ob, j * 3 + 2, none⟩ = some (.int .i64 x.2)

def spCells (step : Nat) (v : Value) (sms : Value) (mp : Value) : Array Value := #[.int .i64 step, .int .i64 0, v, .slice none 0 0, sms, mp]

theorem GrpsAt.form {B : Nat} {w : World} {v : Value} {G : List (Int × List Int)} {vs : Nat → Value} (h : GrpsAt B w v G vs) : ∃ p c, v = .slice p G.length c := by
  rcases h.row.2 with ⟨e, e2⟩ | ⟨g, cp, cur, e, _⟩
  · exact ⟨none, 0, by rw [e, e2]⟩
  · exact ⟨_, _, e⟩

theorem row_other {B : Nat} {w w' : World} {e size n : Nat} {v : Value} {xs : List Value} (h : w.ownsRow B e size v n xs) (hb : ∀ j, B ≤ j → w'.heap[j]? = w.heap[j]?) : w'.ownsRow B e size v n xs := by
  obtain ⟨h0, h1 | ⟨g, cap, cur, hv, hB, hh, rest⟩⟩ := h
  · exact ⟨h0, .inl h1⟩
  · exact ⟨h0, .inr ⟨g, cap, cur, hv, hB, (hb g hB).trans hh, rest⟩⟩

theorem GrpsAt.setLow {B : Nat} {w : World} {v : Value} {G : List (Int × List Int)} {vs : Nat → Value} (h : GrpsAt B w v G vs) {p : Addr} (hp : p.block < B) (u : Value) : GrpsAt B (w.setCell p u) v G vs :=
  ⟨row_other h.row fun j hj => Below.heap_setCell _ _ _ _ (by omega), fun k hk => row_other (h.ends k hk) fun j hj => Below.heap_setCell _ _ _ _ (by omega), h.apart, h.apart2⟩

theorem groups_take (X : Ser) (l step : Int) (i : Nat) (x : Int × Int) (h : X[i]? = some x) : groups (X.take (i + 1)) l step = togetherL (groups (X.take i) l step) ((x.1 - l) % step) x.2 := by
  rw [List.take_add_one, h]
  exact groups_snoc _ _ _ _

theorem groups_keys_len (l step : Int) : ∀ X : Ser, (groups X l step).length ≤ X.length := by
  refine rev_ind (p := fun X : Ser => (groups X l step).length ≤ X.length) (by simp [groups]) fun X x ih => ?_
  rw [groups_snoc, List.length_append]
  have hk := congrArg List.length (keys_together (groups X l step) ((x.1 - l) % step) x.2)
  simp only [List.length_map] at hk
  rw [hk]
  split <;> simp <;> omega

theorem endsAt_len (X : Ser) (l step u : Int) : (endsAt X l step u).length ≤ X.length := by
  unfold endsAt
  rw [List.length_map]
  exact List.length_filter_le _ _

theorem endG_groups (X : Ser) (l step : Int) (hs : 0 < step) (k : Nat) (hk : k < (groups X l step).length) : endG (groups X l step) k = endsAt X l step (keyG (groups X l step) k) ∧ endG (groups X l step) k ≠ [] := by
  obtain ⟨h1, h2, h3, _⟩ := groups_facts l step hs X
  have hm : (keyG (groups X l step) k, endG (groups X l step) k) ∈ groups X l step := by
    have : (groups X l step).getD k (0, []) = (groups X l step)[k] := by simp [List.getD, hk]
    unfold keyG endG
    rw [this]
    exact List.getElem_mem hk
  have e := getE_mem h1 hm
  rw [h2] at e
  refine ⟨e.symm, ?_⟩
  rw [← e]
  exact (h3 _).1 (List.mem_map.2 ⟨_, hm, rfl⟩)

set_option linter.unusedSimpArgs false in
set_option maxRecDepth 100000 in
set_option maxHeartbeats 1000000 in
theorem rover_B (spb ob oc sb sc step N r : Nat) (X : Ser) (S : List Int) (mp : Value) (lo hi : Int) (w0 w : World) (hw0 : Below spb w0 w) (hX0 : 0 < X.length) (hXl : X.length ≤ 900) (hXS : ∀ x ∈ X, x.2 ∈ S) (hXr : ∀ x ∈ X, -3000000000 ≤ x.1 ∧ x.1 ≤ 3000000000) (hlo : -3000000000 ≤ lo ∧ lo ≤ 3000000000)
    (hob : ob < spb) (hsb : sb < spb) (hsp : spb < w.heap.size) (hS : SmsAt w sb S) (hO : SerAt w ob X step) (hblk : w.heap[spb]? = some (.cells (spCells step (.slice none 0 0) (.slice (some ⟨sb, 0, none⟩) S.length sc) mp) 49 (0, 0)))
    (hs0 : 0 < step) (hs1 : step ≤ 1000) (hr : r < step) (hN : N ≤ 100000) (hd : hi - lo = ((N * step + r : Nat) : Int)) (R : Ending → World → Prop)
    (hRes : ∀ P : List GP, (P.map fun x => (x.1, x.2.1)).Perm (groups X lo step) → (P.Pairwise fun x y => x.1 < y.1) → ∀ v w', MapAt w' v (thenL (powL S.length (spanD (doesD S P) S.length step) N) (spanD (doesD S P) S.length r)) → Below spb w0 w' → R (.returned v) w') (c3 c4 c5 c6 c7 c8 c10 c11 c12 c13 c14 c15 c16 c17 c18 c19 c20 c21 c22 c23 c24 c25 c26 c27 c28 c29 c30 c31 c32 c33 c34 c35 c36 c37 c38 c39 c40 c41 c42 c43 c44 c45 c46 c47 c48 c49 c50 c51 c52 c53 c54 c55 c56 c57 c58 c59 c60 c61 c62 c63 c64 c65 c66 c67 c68 c69 c70 c71 c72 c73 c74 c75 c76 c77 c78 c79 c80 c81 c82 c83 c84 c85 c86 c87 c88 c89 c90 c91 c92 c93 c94 c95 c96 c97 c98 c99 c100 c101 c102 c103 c104 c105 c106 c107 c108 c109 c110 c111 c112 c113 c114 c115 c116 c117 c118 c119 c120 c121 c122 c123 c124 c125 c126 c127 c128 c129 c130 c131 c132 c133 c134 c135 c136 c137 c138 c139 c140 c141 c142 c143 c144 c145 c146 c147 c148 c149 c150 c151 c152 c153 c154 c155 c156 c157 c158 c159 c160 c161 c162 c163 c164 c165 c166 c167 c168 c169 c170 c171 c172 c173 c174 c175 c176 c177 c178 c179 c180 c181 c182 c183 c184 c185 c186 c187 c188 c189 : Value) :
    roB.wp Ybaz.prog (bodyPost Ybaz.prog Ybaz.f6 R) ⟨#[.slice (some ⟨ob, 0, none⟩) X.length oc, .int .i64 lo, .int .i64 hi, c3, c4, c5, c6, c7, c8, .pointer (some ⟨spb, 0, none⟩), c10, c11, c12, c13, c14, c15, c16, c17, c18, c19, c20, c21, c22, c23, c24, c25, c26, c27, c28, c29, c30, c31, c32, c33, c34, c35, c36, c37, c38, c39, c40, c41, c42, c43, c44, c45, c46, c47, c48, c49, c50, c51, c52, c53, c54, c55, c56, c57, c58, c59, c60, c61, c62, c63, c64, c65, c66, c67, c68, c69, c70, c71, c72, c73, c74, c75, c76, c77, c78, c79, c80, c81, c82, c83, c84, c85, c86, c87, c88, c89, c90, c91, c92, c93, c94, c95, c96, c97, c98, c99, c100, c101, c102, c103, c104, c105, c106, c107, c108, c109, c110, c111, c112, c113, c114, c115, c116, c117, c118, c119, c120, c121, c122, c123, c124, c125, c126, c127, c128, c129, c130, c131, c132, c133, c134, c135, c136, c137, c138, c139, c140, c141, c142, c143, c144, c145, c146, c147, c148, c149, c150, c151, c152, c153, c154, c155, c156, c157, c158, c159, c160, c161, c162, c163, c164, c165, c166, c167, c168, c169, c170, c171, c172, c173, c174, c175, c176, c177, c178, c179, c180, c181, c182, c183, c184, c185, c186, c187, c188, c189], []⟩ w := by
  conv => arg 2; whnf
  have hA : Aside (SmsAt w sb S ∧ SerAt w ob X step ∧ w.heap[spb]? = some (.cells (spCells step (.slice none 0 0) (.slice (some ⟨sb, 0, none⟩) S.length sc) mp) 49 (0, 0))) := ⟨hS, hO, hblk⟩
  clear hS hO hblk
  go_wp2
  rename_i K1 hK1
  have hK1' : Aside (∀ (a : Act) (w : World), _ → K1 a w) := hK1
  clear hK1
  go_loopg [46] (X.length + 1) (fun q vi wr => ∃ (i : Nat) (v : Value) (vs : Nat → Value), vi = .int .i64 i ∧ i ≤ X.length ∧ X.length - i < q ∧ Below spb w wr ∧ spb < wr.heap.size ∧ wr.heap[spb]? = some (.cells (spCells step v (.slice (some ⟨sb, 0, none⟩) S.length sc) mp) 49 (0, 0)) ∧ GrpsAt (spb + 1) wr v (groups (X.take i) lo step) vs)
  case atStart =>
    exact ⟨0, .slice none 0 0, fun _ => .slice none 0 0, rfl, Nat.zero_le _, by omega, Below.refl _ _, hsp, hA.out.2.2, by simpa [groups] using grps_nil (spb + 1) w⟩
  case round =>
    obtain ⟨i, v, vs, rfl, hiX, hq, hb, hsw, hbl, hG⟩ := hrel
    by_cases hlt : i < X.length
    · obtain ⟨x, hx⟩ : ∃ x, X[i]? = some x := ⟨_, List.getElem?_eq_getElem hlt⟩
      obtain ⟨o0, o1, o2⟩ := hA.out.2.1 i x hx
      have p0 := (hb.cell (p := ⟨ob, i * 3, none⟩) hob).trans o0
      have p1 := (hb.cell (p := ⟨ob, i * 3 + 1, none⟩) hob).trans o1
      have p2 := (hb.cell (p := ⟨ob, i * 3 + 2, none⟩) hob).trans o2
      have s0 : wr.cell? ⟨spb, 0, none⟩ = some (.int .i64 step) := Joins.cell_of_block hbl 0
      have s2 : wr.cell? ⟨spb, 2, none⟩ = some v := Joins.cell_of_block hbl 2
      have hlt' : (i : Int) < (X.length : Int) := by omega
      have hxm : x ∈ X := List.mem_of_getElem? hx
      have hx1 := hXr x hxm
      obtain ⟨sp, svc, rfl⟩ := hG.form
      have hGl : (groups (X.take i) lo step).length ≤ 999 := by
        have h1 := groups_keys_len lo step (X.take i)
        have h2 := List.length_take_le i X
        omega
      obtain ⟨W, hW⟩ : ∃ W, (wr.alloc (.cells #[.int .i64 x.1, .int .i64 step, .int .i64 x.2] 32)) = W := ⟨_, rfl⟩
      have hWb : Below wr.heap.size wr W := by rw [← hW]; exact (Below.refl _ _).alloc (Nat.le_refl _) _
      have hWs : W.heap.size = wr.heap.size + 1 := by rw [← hW]; simp
      have hWx : W.heap[wr.heap.size]? = some (.cells #[.int .i64 x.1, .int .i64 step, .int .i64 x.2] 32 (0, 0)) := by rw [← hW, alloc_at, if_pos rfl]
      have htog : ∀ nq, Calls Ybaz.prog 11 #[.slice sp (groups (X.take i) lo step).length svc, .int .i64 ((x.1 - lo) % step), .int .i64 x.2] (W.drewN nq) _ := fun nq =>
        together11 (spb + 1) _ (groups (X.take i) lo step) vs ((x.1 - lo) % step) x.2 (W.drewN nq) ((hG.below hWb).below (below_drewN W.heap.size W nq)) (by show spb + 1 ≤ W.heap.size; omega) hGl
          (fun k hk => by
            rw [(endG_groups (X.take i) lo step (by omega) k hk).1]
            have h1 := endsAt_len (X.take i) lo step (keyG (groups (X.take i) lo step) k)
            have h2 := List.length_take_le i X
            omega) wr.heap.size (.cells #[.int .i64 x.1, .int .i64 step, .int .i64 x.2] 32 (0, 0)) hWx
          (fun e => by have := hG.row.lt _ e; omega) (fun k hk e => by have := (hG.ends k hk).lt _ e; omega)
      rw [← groups_take X lo step i x hx] at htog
      have hSof : ∀ w' : World, w'.heap[wr.heap.size]? = some (.cells #[.int .i64 x.1, .int .i64 step, .int .i64 x.2] 32 (0, 0)) → w'.cell? ⟨wr.heap.size, 0, none⟩ = some (.int .i64 x.1) ∧ w'.cell? ⟨wr.heap.size, 1, none⟩ = some (.int .i64 step) ∧ w'.cell? ⟨wr.heap.size, 2, none⟩ = some (.int .i64 x.2) :=
        fun w' h => ⟨Joins.cell_of_block h 0, Joins.cell_of_block h 1, Joins.cell_of_block h 2⟩
      have hA2 : Aside (wr.heap[spb]? = some (.cells (spCells step (.slice sp (groups (X.take i) lo step).length svc) (.slice (some ⟨sb, 0, none⟩) S.length sc) mp) 49 (0, 0)) ∧ Below spb w wr) := ⟨hbl, hb⟩
      have hne : spb ≠ wr.heap.size := by omega
      have hWc : ∀ nq, (W.drewN nq).cell? ⟨spb, 2, none⟩ = some (.slice sp (groups (X.take i) lo step).length svc) := fun nq => (hWb.cell (p := ⟨spb, 2, none⟩) hsw).trans s2
      clear o0 o1 o2 hbl hG hx
      obtain ⟨xf, xs⟩ := x
      simp only at p0 p2 hx1 htog hSof hWx hW
      have hAW : Aside (wr.alloc (.cells #[.int .i64 xf, .int .i64 step, .int .i64 xs] 32) = W) := hW
      clear hW
      go_wp2
      go_quiet (fail)
      go_wp2
      rw [hAW.out]
      refine wp_normal ?_
      have htg := htog (nq + 1)
      have hwc := hWc (nq + 1)
      clear hWc htog
      have hwr : IntKind.i64.wrap (xf - lo) = xf - lo := by rw [IntWalk.i64_left]; exact IntWalk.wrap64_in _ (by omega)
      refine wp_region_held_drew (S := fun w' => w'.cell? ⟨wr.heap.size, 0, none⟩ = some (.int .i64 xf) ∧ w'.cell? ⟨wr.heap.size, 1, none⟩ = some (.int .i64 step) ∧ w'.cell? ⟨wr.heap.size, 2, none⟩ = some (.int .i64 xs)) (by kernel_rfl) (hSof _ hWx) (fun hHeld => ?_)
      refine wpAnyH_take (i := 0) (v := ?_) rfl (by kernel_rfl) (by kernel_rfl) (by kernel_rfl) (fun _ _ _ h => h) (Or.inl ⟨by rfl, ?_⟩) (by assumption) ?_
      rotate_left
      · intro w hSw
        try dsimp only at hSw
        go_simp
        try with_reducible rfl
      try simp only [Act.put, List.getElem_toArray, List.getElem_cons_zero, List.getElem_cons_succ, List.setIfInBounds_toArray, List.set_cons_zero, List.set_cons_succ]
      refine wpAnyH_take (i := 1) (v := ?_) rfl (by kernel_rfl) (by kernel_rfl) (by kernel_rfl) (fun _ _ _ h => h) (Or.inl ⟨by rfl, ?_⟩) (by assumption) ?_
      rotate_left
      · intro w hSw
        try dsimp only at hSw
        go_simp
        try with_reducible rfl
      try simp only [Act.put, List.getElem_toArray, List.getElem_cons_zero, List.getElem_cons_succ, List.setIfInBounds_toArray, List.set_cons_zero, List.set_cons_succ]
      refine wpAnyH_take (i := 2) (v := ?_) rfl (by kernel_rfl) (by kernel_rfl) (by kernel_rfl) (fun _ _ _ h => h) (Or.inl ⟨by rfl, ?_⟩) (by assumption) ?_
      rotate_left
      · intro w hSw
        try dsimp only at hSw
        go_simp
        try with_reducible rfl
      try simp only [Act.put, List.getElem_toArray, List.getElem_cons_zero, List.getElem_cons_succ, List.setIfInBounds_toArray, List.set_cons_zero, List.set_cons_succ]
      refine wpAnyH_take (i := 3) (v := ?_) rfl (by kernel_rfl) (by kernel_rfl) (by kernel_rfl) (fun _ _ _ h => h) (Or.inl ⟨by rfl, ?_⟩) (by assumption) ?_
      rotate_left
      · intro w hSw
        try dsimp only at hSw
        go_simp
        try with_reducible rfl
      try simp only [Act.put, List.getElem_toArray, List.getElem_cons_zero, List.getElem_cons_succ, List.setIfInBounds_toArray, List.set_cons_zero, List.set_cons_succ]
      refine wpAnyH_take (i := 5) (v := ?_) rfl (by kernel_rfl) (by kernel_rfl) (by kernel_rfl) (fun _ _ _ h => h) (Or.inl ⟨by rfl, ?_⟩) (by assumption) ?_
      rotate_left
      · intro w hSw
        try dsimp only at hSw
        go_simp
        try with_reducible rfl
      try simp only [Act.put, List.getElem_toArray, List.getElem_cons_zero, List.getElem_cons_succ, List.setIfInBounds_toArray, List.set_cons_zero, List.set_cons_succ]
      refine wpAnyH_take (i := 6) (v := ?_) rfl (by kernel_rfl) (by kernel_rfl) (by kernel_rfl) (fun _ _ _ h => h) (Or.inl ⟨by rfl, ?_⟩) (by assumption) ?_
      rotate_left
      · intro w hSw
        try dsimp only at hSw
        go_simp
        try with_reducible rfl
      try simp only [Act.put, List.getElem_toArray, List.getElem_cons_zero, List.getElem_cons_succ, List.setIfInBounds_toArray, List.set_cons_zero, List.set_cons_succ]
      refine wpAnyH_take (i := 7) (v := ?_) rfl (by kernel_rfl) (by kernel_rfl) (by kernel_rfl) (fun _ _ _ h => h) (Or.inl ⟨by rfl, ?_⟩) (by assumption) ?_
      rotate_left
      · intro w hSw
        try dsimp only at hSw
        go_simp
        try with_reducible rfl
      try simp only [Act.put, List.getElem_toArray, List.getElem_cons_zero, List.getElem_cons_succ, List.setIfInBounds_toArray, List.set_cons_zero, List.set_cons_succ]
      refine wpAnyH_take (i := 8) (v := ?_) rfl (by kernel_rfl) (by kernel_rfl) (by kernel_rfl) (fun _ _ _ h => h) (Or.inl ⟨by rfl, ?_⟩) (by assumption) ?_
      rotate_left
      · intro w hSw
        try dsimp only at hSw
        go_simp
        try with_reducible rfl
      try simp only [Act.put, List.getElem_toArray, List.getElem_cons_zero, List.getElem_cons_succ, List.setIfInBounds_toArray, List.set_cons_zero, List.set_cons_succ]
      refine wpAnyH_take (i := 9) (v := ?_) rfl (by kernel_rfl) (by kernel_rfl) (by kernel_rfl) (fun _ _ _ h => h) (Or.inl ⟨by rfl, ?_⟩) (by assumption) ?_
      rotate_left
      · intro w hSw
        try dsimp only at hSw
        go_simp
        try with_reducible rfl
      try simp only [Act.put, List.getElem_toArray, List.getElem_cons_zero, List.getElem_cons_succ, List.setIfInBounds_toArray, List.set_cons_zero, List.set_cons_succ]
      refine wpAnyH_take (i := 10) (v := ?_) rfl (by kernel_rfl) (by kernel_rfl) (by kernel_rfl) (fun _ _ _ h => h) (Or.inl ⟨by rfl, ?_⟩) (by assumption) ?_
      rotate_left
      · intro w hSw
        try dsimp only at hSw
        go_simp
        try with_reducible rfl
      try simp only [Act.put, List.getElem_toArray, List.getElem_cons_zero, List.getElem_cons_succ, List.setIfInBounds_toArray, List.set_cons_zero, List.set_cons_succ]
      refine wpAnyH_take (i := 12) (v := ?_) rfl (by kernel_rfl) (by kernel_rfl) (by kernel_rfl) (fun _ _ _ h => h) (Or.inl ⟨by rfl, ?_⟩) (by assumption) ?_
      rotate_left
      · intro w hSw
        try dsimp only at hSw
        go_simp
        try with_reducible rfl
      try simp only [Act.put, List.getElem_toArray, List.getElem_cons_zero, List.getElem_cons_succ, List.setIfInBounds_toArray, List.set_cons_zero, List.set_cons_succ]
      refine wpAnyH_take (i := 13) (v := ?_) rfl (by kernel_rfl) (by kernel_rfl) (by kernel_rfl) (fun _ _ _ h => h) (Or.inl ⟨by rfl, ?_⟩) (by assumption) ?_
      rotate_left
      · intro w hSw
        try dsimp only at hSw
        go_simp
        try with_reducible rfl
      try simp only [Act.put, List.getElem_toArray, List.getElem_cons_zero, List.getElem_cons_succ, List.setIfInBounds_toArray, List.set_cons_zero, List.set_cons_succ]
      refine wpAnyH_ready (rs := [4, 11]) (by kernel_rfl) (by simp) ?_
      refine AllReadyH.cons rfl (fun K hK => ?_) (AllReadyH.cons rfl (fun K hK => ?_) AllReadyH.nil)
      · go_simp
        refine hK.out _ _ (hSof _ hWx) (fun hHeld => ?_)
        try simp only [Act.put, List.getElem_toArray, List.getElem_cons_zero, List.getElem_cons_succ, List.setIfInBounds_toArray, List.set_cons_zero, List.set_cons_succ]
        refine wpAnyH_ready (rs := [11]) (by kernel_rfl) (by simp) ?_
        refine AllReadyH.cons rfl (fun K hK => ?_) AllReadyH.nil
        go_simp
        go_wp2_with (go_at_call 12; refine (floorMod (xf - lo) step _ (by omega) (by omega)).mono ?_; rintro e w' ⟨rfl, hw'⟩; rw [hw']; clear hw' w')
        refine hK.out _ _ (hSof _ hWx) (fun hHeld => ?_)
        try simp only [Act.put, List.getElem_toArray, List.getElem_cons_zero, List.getElem_cons_succ, List.setIfInBounds_toArray, List.set_cons_zero, List.set_cons_succ]
        refine wpAnyH_ready (rs := [14]) (by kernel_rfl) (by simp) ?_
        refine AllReadyH.cons rfl (fun K hK => ?_) AllReadyH.nil
        go_simp
        go_wp2_with (go_at_call 11; refine htg.mono ?_; rintro e w3 ⟨v3, vs3, rfl, hg3, hb3, hF3⟩)
        refine hK.out _ _ (hSof _ hF3) (fun hHeld => ?_)
        try simp only [Act.put, List.getElem_toArray, List.getElem_cons_zero, List.getElem_cons_succ, List.setIfInBounds_toArray, List.set_cons_zero, List.set_cons_succ]
        clear hK
        obtain ⟨p3, c3', rfl⟩ := hg3.form
        have hq3 := (hb3.block spb (Nat.lt_succ_self _)).trans ((hWb.block spb hsw).trans hA2.out.1)
        have hq4 : w3.cell? ⟨spb, 2, none⟩ = some (.slice sp (groups (X.take i) lo step).length svc) := Joins.cell_of_block hq3 2
        have hq5 := Joins.unfrozen_of_block hq3 2
        refine wpAnyH_take (i := 15) (v := ?_) rfl (by kernel_rfl) (by kernel_rfl) (by kernel_rfl) (fun _ _ _ h => h) (Or.inl ⟨by rfl, ?_⟩) (by assumption) ?_
        rotate_left
        · intro w hSw
          try dsimp only at hSw
          go_simp
          try with_reducible rfl
        try simp only [Act.put, List.getElem_toArray, List.getElem_cons_zero, List.getElem_cons_succ, List.setIfInBounds_toArray, List.set_cons_zero, List.set_cons_succ]
        refine wpAnyH_take (i := 16) (v := ?_) rfl (by kernel_rfl) (by kernel_rfl) (by kernel_rfl) (fun _ _ _ h => h) (Or.inl ⟨by rfl, ?_⟩) (by assumption) ?_
        rotate_left
        · intro w hSw
          try dsimp only at hSw
          go_simp
          try with_reducible rfl
        try simp only [Act.put, List.getElem_toArray, List.getElem_cons_zero, List.getElem_cons_succ, List.setIfInBounds_toArray, List.set_cons_zero, List.set_cons_succ]
        refine wpAnyH_ready (rs := [17]) (by kernel_rfl) (by simp) ?_
        refine AllReadyH.cons rfl (fun K hK => ?_) AllReadyH.nil
        go_simp
        refine hK.out _ _ (hSof _ ((Below.heap_setCell w3 ⟨spb, 2, none⟩ _ _ (Ne.symm hne)).trans hF3)) (fun hHeld => ?_)
        try simp only [Act.put, List.getElem_toArray, List.getElem_cons_zero, List.getElem_cons_succ, List.setIfInBounds_toArray, List.set_cons_zero, List.set_cons_succ]
        clear hK
        refine wpAnyH_done (by kernel_rfl) ?_ _
        show Exit.inBlock 3 _ Exit.normal _ _
        clear hHeld
        go_wp2
        go_roundg (X.length - i)
        case measure => omega
        case rel =>
          refine ⟨i + 1, _, vs3, by go_num, by omega, by omega, ?_, ?_, Joins.block_setCell hq3 _, hg3.setLow (p := ⟨spb, 2, none⟩) (Nat.lt_succ_self _) _⟩
          · exact (hA2.out.2.trans ((hWb.mono (by omega)).trans ((below_drewN spb W (nq + 1)).trans (hb3.mono (by omega))))).setCell (p := ⟨spb, 2, none⟩) (Nat.le_refl _) _
          · have h9 := hb3.size
            rw [World.size_setCell]
            show spb < w3.heap.size
            have h8 : (W.drewN (nq + 1)).heap.size = W.heap.size := rfl
            omega
      · go_simp
        go_wp2_with (go_at_call 12; refine (floorMod (xf - lo) step _ (by omega) (by omega)).mono ?_; rintro e w' ⟨rfl, hw'⟩; rw [hw']; clear hw' w')
        refine hK.out _ _ (hSof _ hWx) (fun hHeld => ?_)
        try simp only [Act.put, List.getElem_toArray, List.getElem_cons_zero, List.getElem_cons_succ, List.setIfInBounds_toArray, List.set_cons_zero, List.set_cons_succ]
        refine wpAnyH_ready (rs := [4]) (by kernel_rfl) (by simp) ?_
        refine AllReadyH.cons rfl (fun K hK => ?_) AllReadyH.nil
        go_simp
        refine hK.out _ _ (hSof _ hWx) (fun hHeld => ?_)
        try simp only [Act.put, List.getElem_toArray, List.getElem_cons_zero, List.getElem_cons_succ, List.setIfInBounds_toArray, List.set_cons_zero, List.set_cons_succ]
        refine wpAnyH_ready (rs := [14]) (by kernel_rfl) (by simp) ?_
        refine AllReadyH.cons rfl (fun K hK => ?_) AllReadyH.nil
        go_simp
        go_wp2_with (go_at_call 11; refine htg.mono ?_; rintro e w3 ⟨v3, vs3, rfl, hg3, hb3, hF3⟩)
        refine hK.out _ _ (hSof _ hF3) (fun hHeld => ?_)
        try simp only [Act.put, List.getElem_toArray, List.getElem_cons_zero, List.getElem_cons_succ, List.setIfInBounds_toArray, List.set_cons_zero, List.set_cons_succ]
        clear hK
        obtain ⟨p3, c3', rfl⟩ := hg3.form
        have hq3 := (hb3.block spb (Nat.lt_succ_self _)).trans ((hWb.block spb hsw).trans hA2.out.1)
        have hq4 : w3.cell? ⟨spb, 2, none⟩ = some (.slice sp (groups (X.take i) lo step).length svc) := Joins.cell_of_block hq3 2
        have hq5 := Joins.unfrozen_of_block hq3 2
        refine wpAnyH_take (i := 15) (v := ?_) rfl (by kernel_rfl) (by kernel_rfl) (by kernel_rfl) (fun _ _ _ h => h) (Or.inl ⟨by rfl, ?_⟩) (by assumption) ?_
        rotate_left
        · intro w hSw
          try dsimp only at hSw
          go_simp
          try with_reducible rfl
        try simp only [Act.put, List.getElem_toArray, List.getElem_cons_zero, List.getElem_cons_succ, List.setIfInBounds_toArray, List.set_cons_zero, List.set_cons_succ]
        refine wpAnyH_take (i := 16) (v := ?_) rfl (by kernel_rfl) (by kernel_rfl) (by kernel_rfl) (fun _ _ _ h => h) (Or.inl ⟨by rfl, ?_⟩) (by assumption) ?_
        rotate_left
        · intro w hSw
          try dsimp only at hSw
          go_simp
          try with_reducible rfl
        try simp only [Act.put, List.getElem_toArray, List.getElem_cons_zero, List.getElem_cons_succ, List.setIfInBounds_toArray, List.set_cons_zero, List.set_cons_succ]
        refine wpAnyH_ready (rs := [17]) (by kernel_rfl) (by simp) ?_
        refine AllReadyH.cons rfl (fun K hK => ?_) AllReadyH.nil
        go_simp
        refine hK.out _ _ (hSof _ ((Below.heap_setCell w3 ⟨spb, 2, none⟩ _ _ (Ne.symm hne)).trans hF3)) (fun hHeld => ?_)
        try simp only [Act.put, List.getElem_toArray, List.getElem_cons_zero, List.getElem_cons_succ, List.setIfInBounds_toArray, List.set_cons_zero, List.set_cons_succ]
        clear hK
        refine wpAnyH_done (by kernel_rfl) ?_ _
        show Exit.inBlock 3 _ Exit.normal _ _
        clear hHeld
        go_wp2
        go_roundg (X.length - i)
        case measure => omega
        case rel =>
          refine ⟨i + 1, _, vs3, by go_num, by omega, by omega, ?_, ?_, Joins.block_setCell hq3 _, hg3.setLow (p := ⟨spb, 2, none⟩) (Nat.lt_succ_self _) _⟩
          · exact (hA2.out.2.trans ((hWb.mono (by omega)).trans ((below_drewN spb W (nq + 1)).trans (hb3.mono (by omega))))).setCell (p := ⟨spb, 2, none⟩) (Nat.le_refl _) _
          · have h9 := hb3.size
            rw [World.size_setCell]
            show spb < w3.heap.size
            have h8 : (W.drewN (nq + 1)).heap.size = W.heap.size := rfl
            omega
    · obtain rfl : i = X.length := by omega
      go_wp2
      rw [List.take_length] at hG
      obtain ⟨f1, f2, f3, f4⟩ := groups_facts lo step (by omega) X
      have hGl := groups_keys_len lo step X
      obtain ⟨vb, cap, rfl⟩ : ∃ vb cap, v = .slice (some ⟨vb, 0, none⟩) (groups X lo step).length cap := by
        rcases hG.row.2 with ⟨e, e2⟩ | ⟨g, cp, cur, e, _⟩
        · exfalso
          have e3 : groups X lo step = [] := List.length_eq_zero_iff.1 e2
          have hx : X[0] ∈ X := List.getElem_mem hX0
          have : (X[0].1 - lo) % step ∈ (groups X lo step).map (·.1) := (f3 _).2 fun e4 => by
            have hm : X[0].2 ∈ endsAt X lo step ((X[0].1 - lo) % step) := List.mem_map.2 ⟨X[0], List.mem_filter.2 ⟨hx, by simp⟩, rfl⟩
            rw [e4] at hm
            cases hm
          rw [e3] at this
          cases this
        · exact ⟨_, _, e⟩
      exact hK1'.out _ _ (rover_C (spb + 1) spb vb cap sb sc step N r (groups X lo step) vs S lo hi wr wr (Below.refl _ _) hG f1 (by omega) (fun k hk => (endG_groups X lo step (by omega) k hk).2)
        (fun k hk => by
          rw [(endG_groups X lo step (by omega) k hk).1]
          have := endsAt_len X lo step (keyG (groups X lo step) k)
          omega)
        (fun k hk x hx => by
          rw [(endG_groups X lo step (by omega) k hk).1] at hx
          obtain ⟨y, hy, rfl⟩ := List.mem_map.1 hx
          exact hXS y (List.mem_filter.1 hy).1)
        (Nat.lt_succ_self _) (by omega) (by omega) (hA.out.1.below hb (by omega))
        (Joins.cell_of_block hbl 0) (Joins.cell_of_block hbl 1) (Joins.cell_of_block hbl 2) (Joins.cell_of_block hbl 3) (Joins.cell_of_block hbl 4) hs0 hs1 hr hN hd R
        (fun P h1 h2 v w' hm hb' => hRes P h1 h2 v w' hm ((hw0.trans hb).trans (hb'.mono (Nat.le_succ _)))) _ _ _ _ _ _ _ _ _ _ _ _ _ _ _ _ _ _ _ _ _ _ _ _ _ _ _ _ _ _ _ _ _ _ _ _ _ _ _ _ _ _ _ _ _ _ _ _ _ _ _ _ _ _ _ _ _ _ _ _ _ _ _ _ _ _ _ _ _ _ _ _ _ _ _ _ _ _ _ _ _ _ _ _ _ _ _ _ _ _ _ _ _ _ _ _ _ _ _ _ _ _ _ _ _ _ _ _ _ _ _ _ _ _ _ _ _ _ _ _ _ _ _ _ _ _ _ _ _ _ _ _ _ _ _ _ _ _ _ _ _ _ _ _ _ _ _ _ _ _ _ _ _ _ _ _ _ _ _ _ _ _ _ _ _ _ _ _ _ _ _ _ _ _ _ _ _ _ _ _ _ _ _ _ _ _ _)
end Go.Proofs.YbulkcemcGreat
