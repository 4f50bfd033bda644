/-
  NewKinds, walked (seat b4030aZD).
-/
import Derived.Test.YbulkcelaGreatDoorKinds
namespace Go.Proofs.YbulkcelaGreatDoor
open Go.RowKit Go.MapKept

/-- slices.Sorted(maps.Keys(m)) of a map of at most one name. -/
structure KeysSorted : Prop where
  keys : ∀ (mb : Option Nat) (W : World), Calls Ybaz.prog 30 #[.map mb] W fun e w' => e = .returned (.func (.func 51) #[] #[.pointer (some ⟨W.heap.size, 0, none⟩)]) ∧ w' = W.alloc (.cells #[.map mb] 84)
  sorted : ∀ (r : Nat) (w : World) (l : Ents), MapL w r l → (l = [] ∨ ∃ v, l = [(aS, v)]) → Calls Ybaz.prog 29 #[.func (.func 51) #[] #[.pointer (some ⟨w.heap.size, 0, none⟩)]] (w.alloc (.cells #[.map (some r)] 84)) fun e w' =>
    ∃ v, e = .returned v ∧ w'.ownsRow (w.heap.size + 1) 9 1 v l.length (l.map fun p => .string p.1) ∧ Below (w.heap.size + 1) (w.alloc (.cells #[.map (some r)] 84)) w'

/-- What NewKinds leaves. -/
structure KEnd (W0 : World) (N : Nat) (V : Nat → Nat) (len : Nat) (w' : World) : Prop where
  below : Below W0.heap.size W0 w'
  acc : Acc w' (W0.heap.size + 2) W0.heap.size V len
  idx : MapL w' (W0.heap.size + 1) []
  box : ∃ nv fv, w'.heap[W0.heap.size + 2]? = some (.cells #[.map (some W0.heap.size), nv, fv, .map (some (W0.heap.size + 1)), .slice none 0 0, .int .i64 0, .slice none 0 0] 90 (0, 0)) ∧
    w'.ownsRow (W0.heap.size + 3) 92 1 fv len ((List.range len).map (cptr N)) ∧
    w'.ownsRow (W0.heap.size + 3) 9 1 nv (if len = 0 then 0 else 1) (if len = 0 then [] else [.string aS]) ∧ (∀ g, nv.ownBlock = some g → fv.ownBlock ≠ some g)

theorem row_set {w : World} {base : Nat} {e : TypeId} {size : Nat} {v u : Value} {n b o : Nat} {xs : List Value} (h : w.ownsRow base e size v n xs) (hb : b < base) : (w.setCell ⟨b, o, none⟩ u).ownsRow base e size v n xs := by
  obtain ⟨h0, h1⟩ := h
  refine ⟨h0, ?_⟩
  rcases h1 with h1 | ⟨g, cap, cur, e1, e2, e3, e4⟩
  · exact .inl h1
  · exact .inr ⟨g, cap, cur, e1, e2, (Below.heap_setCell _ _ _ _ (by show g ≠ b; omega)).trans e3, e4⟩

theorem row_base {w : World} {base base' : Nat} {e : TypeId} {size : Nat} {v : Value} {n : Nat} {xs : List Value} (h : w.ownsRow base e size v n xs) (hb : base' ≤ base) : w.ownsRow base' e size v n xs := by
  obtain ⟨h0, h1⟩ := h
  refine ⟨h0, ?_⟩
  rcases h1 with h1 | ⟨g, cap, cur, e1, e2, e3⟩
  · exact .inl h1
  · exact .inr ⟨g, cap, cur, e1, Nat.le_trans hb e2, e3⟩

theorem kinds_end {W0 : World} {N len r : Nat} {V : Nat → Nat} {fv nv : Value} {w w2 : World} {l : Ents} (h : KRel W0 N V len len fv w) (hl : l.length = (if len = 0 then 0 else 1)) (hl2 : (l.map fun p => Value.string p.1) = (if len = 0 then [] else [.string aS]))
    (hrow : w2.ownsRow (w.heap.size + 1) 9 1 nv l.length (l.map fun p => .string p.1)) (hb : Below (w.heap.size + 1) (w.alloc (.cells #[.map (some r)] 84)) w2) :
    w2.cell? ⟨W0.heap.size + 1 + 1, 1, none⟩ = some (.slice none 0 0) ∧ w2.frozen? ⟨W0.heap.size + 1 + 1, 1, none⟩ = false ∧ KEnd W0 N V len (w2.setCell ⟨W0.heap.size + 1 + 1, 1, none⟩ nv) := by
  have hb2 : Below w.heap.size w w2 := ((Below.refl _ _).alloc (Nat.le_refl _) _).trans (hb.mono (by omega))
  have h2 := h.later hb2
  have hlo := h2.lo
  have hlo0 := h.lo
  have hset : ∀ k, k ≠ W0.heap.size + 2 → (w2.setCell ⟨W0.heap.size + 1 + 1, 1, none⟩ nv).heap[k]? = w2.heap[k]? := fun k hk => Below.heap_setCell _ _ _ _ (by simpa using hk)
  refine ⟨by rw [Joins.cell_of_block h2.box]; rfl, Joins.unfrozen_of_block h2.box 1, h2.below.setCell (by simp; omega) _, ?_, ?_, nv, fv, ?_, ?_, ?_, ?_⟩
  · exact h2.acc.block (hset _ (by omega)) (fun mb hm _ _ => hset mb (by omega))
  · exact h2.idx.block (hset _ (by omega))
  · have := Joins.block_setCell (i := 1) h2.box nv
    simpa using this
  · exact row_set h2.row (by omega)
  · rw [← hl, ← hl2]
    exact row_set (row_base hrow (by omega)) (by omega)
  · intro g hg e
    have h1 := (own_block hrow hg).1
    have h3 := (h.row.lt g e).2
    omega

theorem valS_some (v : Nat) : (valS v).toList.isEmpty = false := by
  unfold valS
  split
  · kernel_rfl
  · split <;> kernel_rfl

theorem Half.later {W0 : World} {N a c mb : Nat} {V : Nat → Nat} {fv : Value} {w w' : World} {vs : List Nat} (h : Half W0 N V a c fv w mb vs) (hb : Below w.heap.size w w') : Half W0 N V a c fv w' mb vs := by
  have hlo : W0.heap.size + 2 < w.heap.size := (Array.getElem?_eq_some_iff.1 h.box).1
  exact ⟨h.below.trans (hb.mono (by omega)), h.mlo, h.acc.block (hb.block _ (by omega)), h.inner.block (hb.block _ h.inner.lt), h.mem, h.idx.block (hb.block _ (by omega)), (hb.block _ hlo).trans h.box, row_below h.row hb⟩

set_option linter.unusedSimpArgs false in
set_option maxRecDepth 100000 in
set_option maxHeartbeats 1000000 in
theorem kinds_walk (hK : KeysSorted) (N B len cap : Nat) (V : Nat → Nat) (S E : Nat → Int) (hl : (len : Int) ≤ 300) (W0 : World) (hNB : N < B) (hB : B ≤ W0.heap.size) (hC : ∀ i, i < len → Con W0 N B V S E i) :
    Calls Ybaz.prog 17 #[.slice (some ⟨N, 0, none⟩) len cap] W0 fun e w' => e = .returned (.pointer (some ⟨W0.heap.size + 1 + 1, 0, none⟩)) ∧ KEnd W0 N V len w' := by
  have hmm := @run_makeMap Ybaz.prog
  have hAC : Aside (∀ i, i < len → Con W0 N B V S E i) := hC
  have hAK : Aside KeysSorted := hK
  clear hC hK
  go_enter Ybaz.func17, Ybaz.ntmps17
  go_wp2
  go_loopg [15] (len + 1) (fun k vc wr => ∃ (c : Nat) (fv : Value), vc = .int .i64 c ∧ c ≤ len ∧ len - c < k ∧ KRel W0 N V c c fv wr)
  case atStart =>
    refine ⟨0, .slice none 0 0, rfl, Nat.zero_le _, by omega, ?_⟩
    refine ⟨?_, .inl ⟨rfl, ?_⟩, ?_, ?_, ?_⟩
    · exact (((Below.refl _ _).alloc (Nat.le_refl _) _).alloc (by simp) _).alloc (by simp; omega) _
    · refine (MapL.made W0).block ?_
      rw [Below.heap_alloc _ _ _ (by simp; omega), Below.heap_alloc _ _ _ (by simp)]
    · have := MapL.made (W0.alloc (.map #[] 0))
      rw [show (W0.alloc (.map #[] 0)).heap.size = W0.heap.size + 1 by simp] at this
      refine this.block ?_
      rw [Below.heap_alloc _ _ _ (by simp)]
    · have e : W0.heap.size + 2 = ((W0.alloc (.map #[] 0)).alloc (.map #[] 0)).heap.size := by simp
      rw [e]; exact (MapKept.heap_alloc _ _).1
    · exact World.ownsRow_nil _ _ _ _
  case round =>
    obtain ⟨c, fv, rfl, hc, hk, hR⟩ := hrel
    have hlo := hR.lo
    by_cases hlt : c < len
    · obtain ⟨tb, sb, htb, hsb, m0, hM0, hsv0⟩ := (hAC.out c hlt).tgt
      have m1 : wr.cell? ⟨N, c * 9 + 2, none⟩ = some (.map (some tb)) := (hR.below.cell (p := ⟨N, c * 9 + 2, none⟩) (by show N < _; omega)).trans m0
      have hM : MapL wr tb [(aS, .slice (some ⟨sb, 0, none⟩) 1 1)] := hM0.below hR.below (by omega)
      obtain ⟨w1, w2, hrg, hnx, hen, hb2, hs2, hnc, hnx2⟩ := hM.once (ty := 0) (t := 39) (e := 37) Ybaz.underlying39
      have hR2 : KRel W0 N V c c fv w2 := hR.later hb2
      obtain ⟨wo, rfl⟩ : ∃ wo : World, wo = wr := ⟨_, rfl⟩
      have hA2 : Aside (KRel W0 N V c c fv w2 ∧ w2.heap.size = wo.heap.size + 1 ∧ (∀ w3, w3.heap[tb]? = w2.heap[tb]? → w3.heap[wo.heap.size]? = w2.heap[wo.heap.size]? → (Instr.next (.pointer (some ⟨wo.heap.size, 0, none⟩)) false 0).run Ybaz.prog w3 = .ok (.tuple #[.bool false]) w3)) := ⟨hR2, hs2, hnx2⟩
      have hAh : Aside (0 < c → ∃ mb vs, Half W0 N V c c fv w2 mb vs ∧ mb < wo.heap.size) := fun h0 => by
        obtain ⟨mb, vs, hh⟩ := hR.half h0
        exact ⟨mb, vs, hh.later hb2, hh.inner.lt⟩
      have b0 : w2.cell? ⟨W0.heap.size + 1 + 1, 0, none⟩ = some (.map (some W0.heap.size)) := by rw [Joins.cell_of_block hR2.box]; rfl
      clear hR hR2 hb2 hs2 hnx2 hM hM0 m0 hnc
      have heql := fun (r : Option Nat) (W : World) => run_eql_map_nil (P := Ybaz.prog) W 91 9 4 r Ybaz.underlying91
      go_wp2
      clear m1 hrg
      go_loopg [] 2 (fun k wx => (k = 2 ∧ wx = w1) ∨ (k = 1 ∧ KRel W0 N V (c + 1) c fv wx ∧ (Instr.next (.pointer (some ⟨wo.heap.size, 0, none⟩)) false 0).run Ybaz.prog wx = .ok (.tuple #[.bool false]) wx))
      case atStart => exact .inl ⟨rfl, rfl⟩
      case round =>
        obtain ⟨gm, rfl⟩ : ∃ g : Nat, g = gk := ⟨_, rfl⟩
        rcases hrel with ⟨rfl, hw⟩ | ⟨rfl, hK', hn'⟩
        · rw [hw]
          clear hw wr
          have hne := valS_some (V c)
          by_cases hc0 : c = 0
          · subst hc0
            obtain ⟨w3, hupd, hH, keep3⟩ := hA2.out.1.first
            have hl0 : (Instr.lookup 84 (.map (some W0.heap.size)) (.string aS) false).run Ybaz.prog w2 = .ok (.map none) w2 := by
              rcases hA2.out.1.acc with ⟨_, h2⟩ | ⟨h1, _⟩
              · exact (h2.look_none (t := 84) (e := 91) Ybaz.underlying84 (z := .map none) (by rfl) aS_size (fun v hv => by cases hv)).1
              · omega
            have hsz3 : w2.heap.size < w3.heap.size := hH.inner.lt
            obtain ⟨w4, hup4, hK4, keep4, hs4⟩ := hH.store (fun i hi => (hAC.out i (by omega)).v3)
            have hlk3 : (Instr.lookup 84 (.map (some W0.heap.size)) (.string aS) false).run Ybaz.prog w3 = .ok (.map (some w2.heap.size)) w3 := (hH.acc.look_some (t := 84) (e := 91) Ybaz.underlying84 (by simp)).1
            have hb03 : w3.cell? ⟨W0.heap.size + 1 + 1, 0, none⟩ = some (.map (some W0.heap.size)) := by rw [Joins.cell_of_block hH.box]; rfl
            have hsv3 : w3.cell? ⟨sb, 0, none⟩ = some (.string (valS (V 0))) := (hH.below.cell (p := ⟨sb, 0, none⟩) (by show sb < _; omega)).trans hsv0
            have hnx4 : (Instr.next (.pointer (some ⟨wo.heap.size, 0, none⟩)) false 0).run Ybaz.prog w4 = .ok (.tuple #[.bool false]) w4 := by
              have hs2 := hA2.out.2.1
              have hm := hH.mlo
              have hs3 := hsz3
              refine hA2.out.2.2 w4 ?_ ?_
              · rw [keep4 tb (by omega) (by omega), keep3 tb (by omega) (by omega)]
              · rw [keep4 wo.heap.size (by omega) (by omega), keep3 wo.heap.size (by omega) (by omega)]
            have hA4 : Aside (KRel W0 N V (0 + 1) 0 fv w4) := hK4
            have hAn : Aside ((Instr.next (.pointer (some ⟨wo.heap.size, 0, none⟩)) false 0).run Ybaz.prog w4 = .ok (.tuple #[.bool false]) w4) := hnx4
            clear hH hK4 keep4 hs4 keep3 hsz3 hnx4
            go_wp2
            go_loopg [44] 2 (fun k vp wy => (k = 2 ∧ vp = .int .i64 0 ∧ wy = w3) ∨ (k = 1 ∧ vp = .int .i64 1 ∧ wy = w4))
            case atStart => exact .inl ⟨rfl, rfl, rfl⟩
            case round =>
              rcases hrel with ⟨rfl, rfl, hw⟩ | ⟨rfl, rfl, hw⟩
              · rw [hw]
                clear hw wr
                go_wp2
                go_roundg 1
                case measure => omega
                case rel => exact .inr ⟨rfl, by go_num, rfl⟩
              · rw [hw]
                clear hw wr
                go_wp2
                go_roundg 1
                case measure => omega
                case rel => exact .inr ⟨rfl, hA4.out, hAn.out⟩
          · obtain ⟨mb, vs, hH, hmb⟩ := hAh.out (by omega)
            obtain ⟨w4, hup4, hK4, keep4, hs4⟩ := hH.store (fun i hi => (hAC.out i (by omega)).v3)
            have hlk3 : (Instr.lookup 84 (.map (some W0.heap.size)) (.string aS) false).run Ybaz.prog w2 = .ok (.map (some mb)) w2 := (hH.acc.look_some (t := 84) (e := 91) Ybaz.underlying84 (by simp)).1
            have hb03 : w2.cell? ⟨W0.heap.size + 1 + 1, 0, none⟩ = some (.map (some W0.heap.size)) := by rw [Joins.cell_of_block hH.box]; rfl
            have hsv3 : w2.cell? ⟨sb, 0, none⟩ = some (.string (valS (V c))) := (hH.below.cell (p := ⟨sb, 0, none⟩) (by show sb < _; omega)).trans hsv0
            have hnx4 : (Instr.next (.pointer (some ⟨wo.heap.size, 0, none⟩)) false 0).run Ybaz.prog w4 = .ok (.tuple #[.bool false]) w4 := by
              have hs2 := hA2.out.2.1
              have hm := hH.mlo
              refine hA2.out.2.2 w4 ?_ ?_
              · rw [keep4 tb (by omega) (by omega)]
              · rw [keep4 wo.heap.size (by omega) (by omega)]
            have hA4 : Aside (KRel W0 N V (c + 1) c fv w4) := hK4
            have hAn : Aside ((Instr.next (.pointer (some ⟨wo.heap.size, 0, none⟩)) false 0).run Ybaz.prog w4 = .ok (.tuple #[.bool false]) w4) := hnx4
            clear hH hK4 keep4 hs4 hnx4
            go_wp2
            go_loopg [44] 2 (fun k vp wy => (k = 2 ∧ vp = .int .i64 0 ∧ wy = w2) ∨ (k = 1 ∧ vp = .int .i64 1 ∧ wy = w4))
            case atStart => exact .inl ⟨rfl, rfl, rfl⟩
            case round =>
              rcases hrel with ⟨rfl, rfl, hw⟩ | ⟨rfl, rfl, hw⟩
              · rw [hw]
                clear hw wr
                go_wp2
                go_roundg 1
                case measure => omega
                case rel => exact .inr ⟨rfl, by go_num, rfl⟩
              · rw [hw]
                clear hw wr
                go_wp2
                go_roundg 1
                case measure => omega
                case rel => exact .inr ⟨rfl, hA4.out, hAn.out⟩
        · have hlo2 := hK'.lo
          obtain ⟨_, _, c3, c4, c5, c6, c7, c8, s0⟩ := (hAC.out c hlt).below hNB (hK'.below.mono hB)
          have hAK2 : Aside (KRel W0 N V (c + 1) c fv wr) := hK'
          have hfl := hasFlight28 N (c * 9) (S c) wr s0 c3 c4 c5
          clear hK' c3 c4 c5 c6 c7 c8 s0
          go_wp2_with (go_at_call 28; refine hfl.mono ?_; rintro e w5 ⟨rfl, hl5⟩; refine Veil.off ?_)
          unfold Veil
          clear hfl
          have hK5 := hAK2.out.later hl5.below
          have hbox := hK5.box
          have b2 : w5.cell? ⟨W0.heap.size + 1 + 1, 2, none⟩ = some fv := by rw [Joins.cell_of_block hbox]; rfl
          have f2 : w5.frozen? ⟨W0.heap.size + 1 + 1, 2, none⟩ = false := Joins.unfrozen_of_block hbox 2
          have hlo5 := hK5.lo
          have A : Aside (KRel W0 N V (c + 1) c fv w5) := hK5
          have Hrow : Aside (w5.ownsRow (W0.heap.size + 3) 92 1 fv c ((List.range c).map (cptr N))) := hK5.row
          clear hK5 hbox hl5 hAK2
          obtain ⟨i0, hi, hz0, hz1, hz2⟩ := info_parts Ybaz.info92
          have Hi : Aside (Ybaz.prog.info? 92 = some i0 ∧ i0.zero = some (.pointer none) ∧ i0.size = 1 ∧ i0.bytes = 8) := ⟨hi, hz0, hz1, hz2⟩
          clear hi hz0 hz1 hz2
          have Hone : Aside (0 < 1) := by show 0 < 1; decide
          have Hown1 : Aside ((w5.alloc (.cells #[.pointer (some ⟨N, c * 9, none⟩)] 92)).drew.ownsRow (W0.heap.size + 3) 92 1 fv c ((List.range c).map (cptr N))) := World.ownsRow.alloc Hrow.out _
          have Hnews : Aside (∀ (j : Nat) u, [cptr N c][j]? = some u → (w5.alloc (.cells #[.pointer (some ⟨N, c * 9, none⟩)] 92)).drew.cell? (Addr.add ⟨w5.heap.size, 0, none⟩ j) = some u) := cell_one_new _ _ _
          have H1c : Aside (∀ u ∈ [cptr N c], u.oneCell' = true) := by show ∀ u ∈ [cptr N c], u.oneCell' = true; intro u hu; simp at hu; subst hu; rfl
          have Hbase : Aside (W0.heap.size + 3 ≤ (w5.alloc (.cells #[.pointer (some ⟨N, c * 9, none⟩)] 92)).drew.heap.size) := by show W0.heap.size + 3 ≤ (w5.alloc _).heap.size; simp; omega
          have Hb1 : Aside (c + 1 ≤ maxLen) := by show _ ≤ _; unfold maxLen; omega
          have Hb2 : Aside ((c + 1) * 8 ≤ 140737488355328) := by show _ ≤ _; omega
          go_wp2
          go_region_law (refine step_append_own rfl (.tmp 66) (.tmp 70) 86 rfl (W0.heap.size + 3) 92 i0 (.pointer none) 1 8 Ybaz.underlying86 Hi.out.1 Hi.out.2.1 Hi.out.2.2.1 Hi.out.2.2.2 rfl Hone.out fv c ((List.range c).map (cptr N)) rfl Hown1.out ⟨w5.heap.size, 0, none⟩ 1 1 [cptr N c] rfl rfl Hnews.out H1c.out Hb1.out Hb2.out Hbase.out ?_; intro v' w3 hown hgrow; have P := pushed A.out hown hgrow; obtain ⟨⟨g, cp, hv⟩, b3, f3⟩ := P; have R : Aside (KRel W0 N V (c + 1) (c + 1) v' (w3.setCell ⟨W0.heap.size + 1 + 1, 2, none⟩ v')) := KRel.push A.out hown hgrow; clear hown hgrow; rw [hv]; rw [hv] at R; clear hv)
          all_goals
            go_wp2
            go_roundg (len - c)
            case measure => omega
            case rel => exact ⟨c + 1, _, by go_num, by omega, by omega, R.out⟩
    · obtain rfl : c = len := by omega
      have A : Aside (KRel W0 N V c c fv wr) := hR
      have b0 : wr.cell? ⟨W0.heap.size + 1 + 1, 0, none⟩ = some (.map (some W0.heap.size)) := by rw [Joins.cell_of_block hR.box]; rfl
      obtain ⟨l, hl1, hl2, hl3, hMl⟩ : ∃ l : Ents, l.length = (if c = 0 then 0 else 1) ∧ (l.map fun p => Value.string p.1) = (if c = 0 then [] else [.string aS]) ∧ (l = [] ∨ ∃ v, l = [(aS, v)]) ∧ MapL wr W0.heap.size l := by
        rcases hR.acc with ⟨h1, h2⟩ | ⟨h1, mb, vs, _, _, h4, _⟩
        · exact ⟨[], by simp [h1], by simp [h1], .inl rfl, h2⟩
        · exact ⟨_, by simp; omega, by simp; omega, .inr ⟨_, rfl⟩, h4⟩
      have hk := fun W => hAK.out.keys (some W0.heap.size) W
      have hsd := hAK.out.sorted W0.heap.size wr l hMl hl3
      have hAl : Aside (l.length = (if c = 0 then 0 else 1) ∧ (l.map fun p => Value.string p.1) = (if c = 0 then [] else [.string aS])) := ⟨hl1, hl2⟩
      clear hR hl1 hl2 hl3 hMl
      go_wp2_with (go_at_call 30; refine (hk _).mono ?_; rintro e w1 ⟨rfl, rfl⟩; refine Veil.off ?_)
      unfold Veil
      go_wp2_with (go_at_call 29; refine hsd.mono ?_; rintro e w2 ⟨nv, rfl, hrw, hb2⟩; refine Veil.off ?_)
      unfold Veil
      obtain ⟨na, nc, hnv⟩ := own_form hrw
      obtain ⟨g1, g2, g3⟩ := kinds_end (nv := nv) A.out hAl.out.1 hAl.out.2 hrw hb2
      subst hnv
      have G : Aside (KEnd W0 N V c (w2.setCell ⟨W0.heap.size + 1 + 1, 1, none⟩ (.slice na l.length nc))) := g3
      clear g3 hb2 hrw hsd hk hAl
      generalize l.length = ln at *
      go_wp2
      go_ret
      exact ⟨rfl, G.out⟩
end Go.Proofs.YbulkcelaGreatDoor
