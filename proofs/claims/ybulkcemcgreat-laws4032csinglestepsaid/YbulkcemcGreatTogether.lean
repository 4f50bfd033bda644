/-
  LawS4032CSingleStep: 'together' (seat b4032aZ).
-/
import Derived.Test.YbulkcemcGreatGroups
namespace Go.Proofs.YbulkcemcGreat
open Go.RowKit Go.Shelf Go.Lib

set_option maxHeartbeats 1000000 in
theorem idx36_nil (fv : Value) (w : World) : Calls Ybaz.prog 36 #[.slice none 0 0, fv] w fun e w' => e = .returned (.int .i64 (-1)) ∧ w' = w := by
  go_enter Ybaz.func36, Ybaz.ntmps36
  go_wp2
  go_loopg [8] 1 (fun _ vi wr => vi = .int .i64 0 ∧ wr = w)
  case atStart => exact ⟨rfl, rfl⟩
  case round =>
    obtain ⟨rfl, hw⟩ := hrel
    rw [hw]
    go_wp2
    go_ret
    exact ⟨rfl, rfl⟩

theorem idx36 (B : Nat) (v : Value) (G : List (Int × List Int)) (vs : Nat → Value) (a : Int) (ab : Nat) (w : World) (h : GrpsAt B w v G vs) (hl : G.length ≤ 1000) (hab : ab < w.heap.size) (hc : w.cell? ⟨ab, 0, none⟩ = some (.int .i64 a)) :
    Calls Ybaz.prog 36 #[v, .func (.func 37) #[] #[.pointer (some ⟨ab, 0, none⟩)]] w fun e w' => e = .returned (.int .i64 (findK G a 0)) ∧ Below w.heap.size w w' := by
  rcases h.row.2 with ⟨e1, e2⟩ | ⟨vb, cap, cur, e1, hB, hh, hn, hcm, hcs, htk⟩
  · subst e1
    have : G = [] := List.length_eq_zero_iff.1 e2
    subst this
    exact (idx36_nil _ w).mono fun e w' ⟨he, hw⟩ => ⟨he, by rw [hw]; exact Below.refl _ _⟩
  · subst e1
    have eg : ∀ args w, (callFunc 37 args).run Ybaz.prog w = .ok (.enter 37 args) w := enters_of Ybaz.func37 (by kernel_rfl) rfl
    obtain ⟨zs, hzs⟩ : ∃ zs : List Grp, zs = (List.range G.length).map fun k => (keyG G k, vs k, .slice none 0 0) := ⟨_, rfl⟩
    have hzl : zs.length = G.length := by rw [hzs]; simp
    have hget : ∀ j, j < G.length → encG zs[j]! = cellG G vs j := fun j hj => by
      rw [hzs, getElem!_pos _ j (by simpa using hj)]
      simp [encG, cellG]
    have hk := AnyQ.slices_IndexFunc (α := Grp) Ybaz.idxG 3 Ybaz.isAgg54 Ybaz.sizeOf54 encG (fun _ => rfl) (fun y => y.1 == a) 37 #[.pointer (some ⟨ab, 0, none⟩)] eg vb 0 G.length cap zs w
      (fun W x hW => (closure37 x a ab W (by have := hW.size; omega) ((hW.cell (p := ⟨ab, 0, none⟩) hab).trans hc)).mono fun e w' ⟨he, hb⟩ => ⟨he, hW.trans (hb.mono hW.size)⟩)
      (by omega) (by omega) (Array.getElem?_eq_some_iff.1 hh).1 (fun j hj i u hu => by
        rw [hzl] at hj
        rw [hget j hj] at hu
        have hi : i < 3 := (List.getElem?_eq_some_iff.1 hu).1
        rw [Nat.zero_add, h.row.cellAt (j * 3 + i) (by omega), flat3_get _ (cellG_length G vs) i hi _ _ hj, hu])
    rw [show zs.take G.length = zs by rw [← hzl, List.take_length]] at hk
    have hfi := find_idx a G zs 0 (by
      rw [hzs, List.map_map]
      refine List.ext_getElem? fun j => ?_
      by_cases hj : j < G.length
      · simp [hj, keyG, List.getD]
      · rw [List.getElem?_eq_none (by simp; omega), List.getElem?_eq_none (by simp; omega)]) default
    unfold Lib.idxBy at hk
    rw [hfi] at hk
    exact hk

theorem info54 : (Ybaz.prog.info? 54).map (fun i => (i.zero, i.size, i.bytes)) = some (some (.agg #[.int .i64 0, .slice none 0 0, .slice none 0 0]), 3, 56) := by kernel_rfl
theorem info39 : (Ybaz.prog.info? 39).map (fun i => (i.zero, i.size, i.bytes)) = some (some (.agg #[.float .f64 0, .int .i64 0]), 2, 16) := by kernel_rfl

/-- The number of the first region of a piece of code. -/
def headR : Code → Option Nat
  | .region n _ _ => some n
  | .seq a _ => headR a
  | .block _ c => headR c
  | .scope c => headR c
  | _ => none
/-- The rest of a chain of statements, from the statement whose first region is the n-th. -/
def fromR (n : Nat) : Code → Option Code
  | .seq a b => match headR a == some n with
    | true => some (.seq a b)
    | false => fromR n b
  | .block _ c => fromR n c
  | .scope c => fromR n c
  | _ => none
noncomputable def tgB : Code := (Ybaz.f11.body.bind (fromR 4)).getD .skip

set_option linter.unusedSimpArgs false in
set_option maxRecDepth 100000 in
set_option maxHeartbeats 1000000 in
theorem together_B (B vb cap k : Nat) (G : List (Int × List Int)) (vs : Nat → Value) (a sm : Int) (E : List Int) (w0 w : World) (h : GrpsAt B w (.slice (some ⟨vb, 0, none⟩) G.length cap) G vs) (hw0 : Below B w0 w) (hB : B ≤ w.heap.size) (hE : E.length ≤ 999) (hk : k < G.length) (hGk : G[k]? = some (a, E)) (F : Nat) (o : Obj) (hF : w.heap[F]? = some o) (hFv : F ≠ vb) (hFk : (vs k).ownBlock ≠ some F) (c1 c3 c4 c5 c6 c8 c9 c10 c11 c12 c13 c14 c15 c16 c17 c18 c19 c20 c21 c22 c23 c24 c25 c26 c27 c28 c29 c30 c31 c32 c33 : Value) :
    tgB.wp Ybaz.prog (bodyPost Ybaz.prog Ybaz.f11 fun e w' => ∃ v' vs', e = .returned v' ∧ GrpsAt B w' v' (G.set k (a, E ++ [sm])) vs' ∧ Below B w0 w' ∧ w'.heap[F]? = some o) ⟨#[(.slice (some ⟨vb, 0, none⟩) G.length cap), c1, (.int .i64 sm), c3, c4, c5, c6, (.int .i64 k), c8, c9, c10, c11, c12, c13, c14, c15, c16, c17, c18, c19, c20, c21, c22, c23, c24, c25, c26, c27, c28, c29, c30, c31, c32, c33], []⟩ w := by
  conv => arg 2; whnf
  obtain ⟨i3, hi3, hz30, hz31, hz32⟩ := info_parts info39
  have hGk2 : G.getD k (0, []) = (a, E) := by simp [List.getD, hGk]
  have hce := h.row.cellAt (k * 3 + 1) (by omega)
  rw [flat3_get _ (cellG_length G vs) 1 (by omega) _ _ hk] at hce
  have hc1 : w.cell? ⟨vb, k * 3 + 1, none⟩ = some (vs k) := hce
  have hen := h.ends k hk
  simp only [endG, hGk2] at hen
  have hvo : (vs k).oneCell' = true := by rcases hen.2 with ⟨e, _⟩ | ⟨g, cp, cur, e, _⟩ <;> rw [e] <;> rfl
  have hk' : (k : Int) < (G.length : Int) := by omega
  have hH : Aside (GrpsAt B w (.slice (some ⟨vb, 0, none⟩) G.length cap) G vs) := h
  obtain ⟨ev, hevE⟩ : ∃ ev, vs k = ev := ⟨_, rfl⟩
  rw [hevE] at hc1 hen hvo hFk
  have hFl : F < w.heap.size := (Array.getElem?_eq_some_iff.1 hF).1
  have hAF : Aside (w.heap[F]? = some o) := hF
  clear hF
  clear h hce
  go_wp2_with (at_builtin; refine Veil.off ?_)
  unfold Veil
  have hnew : (w.alloc (.cells #[.float .f64 0, .int .i64 sm] 39)).heap[w.heap.size]? = some (.cells #[.float .f64 0, .int .i64 sm] 39 (0, 0)) := by rw [alloc_at, if_pos rfl]
  refine wpList_append_own_at _ rfl (.tmp 26) (.tmp 29) 35 rfl B 39 i3 (.agg #[.float .f64 0, .int .i64 0]) 2 16 Ybaz.underlying35 hi3 hz30 hz31 hz32 rfl (by decide) ev E.length (E.flatMap encB) rfl (hen.alloc _) ⟨w.heap.size, 0, none⟩ 1 1 (encB sm) rfl rfl ?a1 ?a2 ?a3 ?a4 ?a5 ?_
  case a1 =>
    intro j u hj
    rw [Addr.add_mid, Nat.zero_add, Joins.cell_of_block hnew]
    simpa [encB] using hj
  case a2 =>
    intro u hu
    simp [encB] at hu
    rcases hu with rfl | rfl <;> rfl
  case a3 => simp [maxLen]; omega
  case a4 => omega
  case a5 => simp; omega
  intro ev2 w2 hown2 hgrow _ hob2
  have hbA : Below w.heap.size w (w.alloc (.cells #[.float .f64 0, .int .i64 sm] 39)) := (Below.refl _ _).alloc (Nat.le_refl _) _
  have hHA := hH.out.below hbA
  have hput := hHA.put (a := a) (sm := sm) (E := E) (ev2 := ev2) hk hGk hown2 (by rw [hevE]; exact hgrow) (by rw [hevE]; exact hob2)
  have hbB : Below B w w2 := (hbA.mono hB).grown hgrow (by simp; omega) (fun j e => (hen.lt j e).1)
  have hvbl := hH.out.row.lt vb rfl
  have hne : ev.ownBlock ≠ some vb := by rw [← hevE]; exact fun e => hH.out.apart k vb hk e rfl
  have hb2 : w2.heap[vb]? = w.heap[vb]? := (hgrow.block vb (by simp; omega) (fun e => hne e.symm)).trans (Below.heap_alloc _ _ _ hvbl.2)
  have hF2 : Aside (w2.heap[F]? = some o) := ((hgrow.block F (by simp; omega) (fun e => hFk e.symm)).trans (Below.heap_alloc _ _ _ hFl)).trans hAF.out
  have hc2 : w2.cell? ⟨vb, k * 3 + 1, none⟩ = some ev := (World.cell?_of_block hb2).trans hc1
  have hf2 : w2.frozen? ⟨vb, k * 3 + 1, none⟩ = false := by
    rcases hH.out.row.2 with ⟨e1, _⟩ | ⟨g, cp, cur, e1, _, hh, _⟩
    · cases e1
    · cases e1
      exact Joins.unfrozen_of_block (hb2.trans hh) _
  obtain ⟨g2, cp2, hv2e⟩ := Joins.ownsRow_form hown2 (by omega)
  subst hv2e
  have A2 : Aside (GrpsAt B (w2.setCell ⟨vb, k * 3 + 1, none⟩ (.slice (some ⟨g2, 0, none⟩) (E.length + 1) cp2)) (.slice (some ⟨vb, 0, none⟩) G.length cap) (G.set k (a, E ++ [sm])) (fun j => if j = k then .slice (some ⟨g2, 0, none⟩) (E.length + 1) cp2 else vs j)) := hput
  clear hput hHA hown2 hgrow hob2 hen hc1 hb2
  go_wp2
  go_ret
  exact ⟨_, _, rfl, A2.out, (hw0.trans hbB).setCell (p := ⟨vb, k * 3 + 1, none⟩) hvbl.1 _, (Below.heap_setCell w2 ⟨vb, k * 3 + 1, none⟩ _ F hFv).trans hF2.out⟩

set_option linter.unusedSimpArgs false in
set_option maxRecDepth 100000 in
set_option maxHeartbeats 1000000 in
theorem together11 (B : Nat) (v : Value) (G : List (Int × List Int)) (vs : Nat → Value) (a sm : Int) (w : World) (h : GrpsAt B w v G vs) (hB : B ≤ w.heap.size) (hl : G.length ≤ 999) (hE : ∀ k, k < G.length → (endG G k).length ≤ 999) (F : Nat) (o : Obj) (hF : w.heap[F]? = some o) (hFv : v.ownBlock ≠ some F) (hFk : ∀ k, k < G.length → (vs k).ownBlock ≠ some F) :
    Calls Ybaz.prog 11 #[v, .int .i64 a, .int .i64 sm] w fun e w' => ∃ v' vs', e = .returned v' ∧ GrpsAt B w' v' (togetherL G a sm) vs' ∧ Below B w w' ∧ w'.heap[F]? = some o := by
  have hb1 : Below w.heap.size w (w.alloc (.cells #[.int .i64 a] 2)) := (Below.refl _ _).alloc (Nat.le_refl _) _
  have h1 := h.below hb1
  have hFl : F < w.heap.size := (Array.getElem?_eq_some_iff.1 hF).1
  have hAF : Aside (w.heap[F]? = some o) := hF
  clear hF
  have hidx := idx36 B v G vs a w.heap.size _ h1 (by omega) (by simp) (by simp)
  obtain ⟨i5, hi5, hz50, hz51, hz52⟩ := info_parts info54
  obtain ⟨i3, hi3, hz30, hz31, hz32⟩ := info_parts info39
  have hH : Aside (GrpsAt B (w.alloc (.cells #[.int .i64 a] 2)) v G vs) := h1
  have hvf : v.oneCell' = true := by rcases h.row.2 with ⟨e, _⟩ | ⟨g, cp, cur, e, _⟩ <;> rw [e] <;> rfl
  rcases find_cases a sm G 0 with ⟨hf, htg⟩ | ⟨k, E, hk, hf, hGk, htg⟩
  · rw [hf] at hidx
    rw [htg]
    clear h1 h
    obtain ⟨p, c, rfl⟩ : ∃ p c, v = .slice p G.length c := by
      rcases hH.out.row.2 with ⟨e, e2⟩ | ⟨g, cp, cur, e, _⟩
      · exact ⟨none, 0, by rw [e, e2]⟩
      · exact ⟨_, _, e⟩
    go_enter Ybaz.func11, Ybaz.ntmps11
    go_wp2_with (first | (go_at_call 36; refine hidx.mono ?_; rintro e w2 ⟨rfl, hb2⟩; have hca : w2.cell? ⟨w.heap.size, 0, none⟩ = some (.int .i64 a) := (hb2.cell (p := ⟨w.heap.size, 0, none⟩) (by simp)).trans (by simp)) | (at_builtin; refine Veil.off ?_))
    rename_i K1 hK1
    have hK1' : Aside (∀ (a : Act) (w : World), _ → K1 a w) := hK1
    clear hK1
    unfold Veil
    have hbw2 : Below w.heap.size w w2 := hb1.trans (hb2.mono (by simp))
    have hsz2 := hbw2.size
    have h2 := hH.out.below hb2
    have hbA : Below w2.heap.size w2 (w2.alloc (.cells #[.int .i64 a, .slice none 0 0, .slice none 0 0] 54)) := (Below.refl _ _).alloc (Nat.le_refl _) _
    have h3 := h2.below hbA
    have hnew : (w2.alloc (.cells #[.int .i64 a, .slice none 0 0, .slice none 0 0] 54)).heap[w2.heap.size]? = some (.cells #[.int .i64 a, .slice none 0 0, .slice none 0 0] 54 (0, 0)) := by rw [alloc_at, if_pos rfl]
    refine wpList_append_own_at _ rfl (.tmp 15) (.tmp 18) 46 rfl B 54 i5 (.agg #[.int .i64 0, .slice none 0 0, .slice none 0 0]) 3 56 Ybaz.underlying46 hi5 hz50 hz51 hz52 rfl (by decide) (.slice p G.length c) G.length _ rfl h3.row ⟨w2.heap.size, 0, none⟩ 1 1 [.int .i64 a, .slice none 0 0, .slice none 0 0] rfl rfl ?a1 ?a2 ?a3 ?a4 ?a5 ?_
    case a1 =>
      intro j u hj
      rw [Addr.add_mid, Nat.zero_add, Joins.cell_of_block hnew]
      simpa using hj
    case a2 =>
      intro u hu
      simp at hu
      rcases hu with rfl | rfl <;> rfl
    case a3 => simp [maxLen]; omega
    case a4 => omega
    case a5 => simp; omega
    intro v1 w3 hown3 hgrow _ hob3
    have hpush := h3.push hown3 hgrow hob3
    have hF3 : Aside (w3.heap[F]? = some o) := (((hgrow.block F (by simp; omega) (fun e => hFv e.symm)).trans (Below.heap_alloc _ _ _ (by omega))).trans (hbw2.block F hFl)).trans hAF.out
    have hF4 : v1.ownBlock ≠ some F := by
      rcases hob3 with e | e <;> rw [e]
      · exact hFv
      · simp; omega
    have hbB : Below B w w3 := ((hbw2.mono hB).trans (hbA.mono (by omega))).grown hgrow (by simp; omega) (fun j e => (h3.row.lt j e).1)
    obtain ⟨vb, cap, hv1e⟩ := Joins.ownsRow_form hown3 (by omega)
    subst hv1e
    have hF5 : F ≠ vb := fun e => hF4 (by rw [e]; rfl)
    have A3 : Aside (GrpsAt B w3 (.slice (some ⟨vb, 0, none⟩) (G.length + 1) cap) (G ++ [(a, [])]) (fun k => if k = G.length then .slice none 0 0 else vs k)) := hpush
    have hsz3 : B ≤ w3.heap.size := Nat.le_trans hB hbB.size
    clear hpush hown3 hgrow hob3 h2 h3 hbA hnew hca
    go_wp2
    have hset : (G ++ [(a, ([] : List Int))]).set G.length (a, [] ++ [sm]) = G ++ [(a, [sm])] := by simp
    have hfin := together_B B vb cap G.length (G ++ [(a, [])]) (fun k => if k = G.length then .slice none 0 0 else vs k) a sm [] w w3 (by rw [show (G ++ [(a, ([] : List Int))]).length = G.length + 1 by simp]; exact A3.out) hbB hsz3 (by simp) (by simp) (by simp) F o hF3.out hF5 (by simp [Value.ownBlock])
    rw [hset, show (G ++ [(a, ([] : List Int))]).length = G.length + 1 by simp] at hfin
    exact hK1'.out _ _ (hfin _ _ _ _ _ _ _ _ _ _ _ _ _ _ _ _ _ _ _ _ _ _ _ _ _ _ _ _ _ _ _)
  · rw [Nat.zero_add] at hf
    rw [hf] at hidx
    rw [htg]
    clear h1 h
    obtain ⟨vb, cap, rfl⟩ : ∃ vb cap, v = .slice (some ⟨vb, 0, none⟩) G.length cap := by
      rcases hH.out.row.2 with ⟨e, e2⟩ | ⟨g, cp, cur, e, _⟩
      · omega
      · exact ⟨_, _, e⟩
    have hnn : (0 : Int) ≤ (k : Int) := by omega
    go_enter Ybaz.func11, Ybaz.ntmps11
    refine wp_seq_k fun K0 hK0 => ?_
    have hK0' : Aside (∀ (a : Act) (w : World), _ → K0 a w) := hK0
    clear hK0
    go_wp2
    refine hK0'.out _ _ ?_
    clear hK0'
    refine wp_seq_k fun K1 hK1 => ?_
    have hK1' : Aside (∀ (a : Act) (w : World), _ → K1 a w) := hK1
    clear hK1
    go_wp2_with (go_at_call 36; refine hidx.mono ?_; rintro e w2 ⟨rfl, hb2⟩)
    refine hK1'.out _ _ ?_
    clear hK1'
    refine wp_seq_k fun K2 hK2 => ?_
    have hK2' : Aside (∀ (a : Act) (w : World), _ → K2 a w) := hK2
    clear hK2
    go_wp2
    refine hK2'.out _ _ ?_
    clear hK2'
    have hbw2 : Below w.heap.size w w2 := hb1.trans (hb2.mono (by simp))
    have hGk2 : G.getD k (0, []) = (a, E) := by simp [List.getD, hGk]
    have hEl : E.length ≤ 999 := by have := hE k hk; simp only [endG, hGk2] at this; exact this
    exact together_B B vb cap k G vs a sm E w w2 (hH.out.below hb2) (hbw2.mono hB) (Nat.le_trans hB hbw2.size) hEl hk hGk F o (((hbw2.block F hFl)).trans hAF.out) (fun e => hFv (by rw [e]; rfl)) (hFk k hk) _ _ _ _ _ _ _ _ _ _ _ _ _ _ _ _ _ _ _ _ _ _ _ _ _ _ _ _ _ _ _
end Go.Proofs.YbulkcemcGreat
