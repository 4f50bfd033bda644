/-
  NewKinds (seat b4030a): which contracts are flown.
-/
import Derived.Test.YbulkcelaKindsLaws
import Derived.Test.YbulkcelaSorted
namespace Go.Proofs.Ybulkcela
open Go.RowKit Go.MapKept

def IsInner (w : World) (lo : Nat) (v : Value) : Prop := ∃ r, v = .map (some r) ∧ lo + 2 < r ∧ MapOf w r (fun _ => True) (fun _ => True)

/-- The contracts among the first c that have a flight. -/
def flist (S E : Nat → Int) (c : Nat) : List Nat := (List.range c).filter fun i => decide (S i ≠ 0 ∨ E i ≠ 0)

def cptr (N i : Nat) : Value := .pointer (some ⟨N, i * 9, none⟩)

structure KRel (W0 : World) (N : Nat) (S E : Nat → Int) (c : Nat) (fv : Value) (wr : World) : Prop where
  below : Below W0.heap.size W0 wr
  acc : MapOf wr W0.heap.size Name4 (IsInner wr W0.heap.size)
  box : wr.heap[W0.heap.size + 2]? = some (.cells #[.map (some W0.heap.size), .slice none 0 0, fv, .map (some (W0.heap.size + 1)), .slice none 0 0, .int .i64 0, .slice none 0 0] 43 (0, 0))
  row : wr.ownsRow (W0.heap.size + 3) 45 1 fv (flist S E c).length ((flist S E c).map (cptr N))

theorem acc_kept {w w' : World} {lo : Nat} (h : MapOf w lo Name4 (IsInner w lo)) (hb : w'.heap[lo]? = w.heap[lo]?) (hi : ∀ r, lo + 2 < r → MapOf w r (fun _ => True) (fun _ => True) → MapOf w' r (fun _ => True) (fun _ => True)) : MapOf w' lo Name4 (IsInner w' lo) :=
  h.block hb fun v hv => by
    obtain ⟨r, h1, h2, h3⟩ := hv
    exact ⟨r, h1, h2, hi r h2 h3⟩

/-- What NewKinds leaves: the call's own memory alone has turned; the field 'flown' holds the addresses of the flown contracts. -/
def KEnd (W0 : World) (N : Nat) (S E : Nat → Int) (len : Nat) (w' : World) : Prop :=
  Below W0.heap.size W0 w' ∧ ∃ fv, w'.cell? ⟨W0.heap.size + 1 + 1, 2, none⟩ = some fv ∧ w'.ownsRow (W0.heap.size + 3) 45 1 fv (flist S E len).length ((flist S E len).map (cptr N))

theorem flist_no {S E : Nat → Int} {c : Nat} (h : ¬ (S c ≠ 0 ∨ E c ≠ 0)) : flist S E (c + 1) = flist S E c := by
  unfold flist; rw [List.range_succ, List.filter_append]; simp [h]
theorem flist_yes {S E : Nat → Int} {c : Nat} (h : S c ≠ 0 ∨ E c ≠ 0) : flist S E (c + 1) = flist S E c ++ [c] := by
  unfold flist; rw [List.range_succ, List.filter_append]; simp [h]
theorem flist_le (S E : Nat → Int) (c : Nat) : (flist S E c).length ≤ c := by
  unfold flist
  have := List.length_filter_le (fun i => decide (S i ≠ 0 ∨ E i ≠ 0)) (List.range c)
  simpa using this

theorem own_block {w : World} {base : Nat} {e : TypeId} {size : Nat} {v : Value} {n : Nat} {xs : List Value} (h : w.ownsRow base e size v n xs) {g : Nat} (hg : v.ownBlock = some g) : base ≤ g ∧ ∃ cur, w.heap[g]? = some (.cells cur e (0, 0)) := by
  rcases h.2 with ⟨rfl, _⟩ | ⟨g', cap, cur, rfl, hb, hh, _⟩
  · simp [Value.ownBlock] at hg
  · simp [Value.ownBlock] at hg
    subst hg
    exact ⟨hb, cur, hh⟩

/-- All stays while new blocks are made, and while maps and iterators are written that the relation keeps by itself. -/
theorem KRel.mgr {W0 : World} {N c : Nat} {S E : Nat → Int} {fv : Value} {w w' : World} (h : KRel W0 N S E c fv w) (hm : MGr W0.heap.size w w') (hacc : MapOf w' W0.heap.size Name4 (IsInner w' W0.heap.size)) : KRel W0 N S E c fv w' :=
  ⟨h.below.trans hm.below, hacc, hm.cells _ _ _ _ h.box, ownsRow_mgr h.row hm⟩

theorem KRel.later {W0 : World} {N c : Nat} {S E : Nat → Int} {fv : Value} {w w' : World} (h : KRel W0 N S E c fv w) (hb : Below w.heap.size w w') : KRel W0 N S E c fv w' := by
  have hg : w.grownBy w' none := ⟨hb.os, hb.tape, hb.output, hb.size, fun k hk _ => hb.block k hk⟩
  have hlt := (Array.getElem?_eq_some_iff.1 h.box).1
  exact h.mgr (MGr.of_none hg (by omega)) (acc_kept h.acc (hb.block _ (by omega)) fun r _ hr => hr.block (hb.block _ hr.lt) fun _ h => h)

theorem KRel.skip {W0 : World} {N c : Nat} {S E : Nat → Int} {fv : Value} {w : World} (h : KRel W0 N S E c fv w) (hf : ¬ (S c ≠ 0 ∨ E c ≠ 0)) : KRel W0 N S E (c + 1) fv w :=
  ⟨h.below, h.acc, h.box, by rw [flist_no hf]; exact h.row⟩

theorem KRel.push {W0 : World} {N c : Nat} {S E : Nat → Int} {fv v' : Value} {w w3 : World} {o : Obj} (h : KRel W0 N S E c fv w) (hf : S c ≠ 0 ∨ E c ≠ 0)
    (hrow : w3.ownsRow (W0.heap.size + 3) 45 1 v' ((flist S E c).length + 1) ((flist S E c).map (cptr N) ++ [cptr N c])) (hg : (w.alloc o).drew.grownBy w3 fv.ownBlock) :
    KRel W0 N S E (c + 1) v' (w3.setCell ⟨W0.heap.size + 1 + 1, 2, none⟩ v') := by
  have hlt := (Array.getElem?_eq_some_iff.1 h.box).1
  have hsz : (w.alloc o).drew.heap.size = w.heap.size + 1 := by show (w.alloc o).heap.size = _; simp
  have keep : ∀ k, k < w.heap.size → fv.ownBlock ≠ some k → w3.heap[k]? = w.heap[k]? := fun k hk hne => by
    rw [hg.block k (by omega) (Ne.symm hne)]
    exact Below.heap_alloc _ _ _ hk
  have hne : ∀ k, k < W0.heap.size + 3 → fv.ownBlock ≠ some k := fun k hk e => by
    have := (own_block h.row e).1; omega
  have hset : ∀ k, k ≠ W0.heap.size + 2 → (w3.setCell ⟨W0.heap.size + 1 + 1, 2, none⟩ v').heap[k]? = w3.heap[k]? := fun k hk => Below.heap_setCell _ _ _ _ (by simpa using hk)
  refine ⟨?_, ?_, ?_, ?_⟩
  · refine h.below.trans ⟨hg.os, hg.tape, hg.output, ?_, fun k hk => ?_⟩
    · have := hg.size; simp [World.setCell]; omega
    · rw [hset k (by omega), keep k (by omega) (hne k (by omega))]
  · refine acc_kept h.acc ?_ fun r hr hM => ?_
    · rw [hset _ (by omega), keep _ (by omega) (hne _ (by omega))]
    · refine hM.block ?_ fun _ h => h
      rw [hset _ (by omega), keep _ hM.lt ?_]
      intro e
      obtain ⟨_, cur, hcur⟩ := own_block h.row e
      exact hM.no_cells _ _ _ hcur
  · have hb3 : w3.heap[W0.heap.size + 1 + 1]? = some (.cells #[.map (some W0.heap.size), .slice none 0 0, fv, .map (some (W0.heap.size + 1)), .slice none 0 0, .int .i64 0, .slice none 0 0] 43 (0, 0)) := by
      rw [keep _ (by omega) (hne _ (by omega))]; exact h.box
    have := Joins.block_setCell (i := 2) hb3 v'
    simpa using this
  · rw [flist_yes hf]
    simp only [List.length_append, List.length_singleton, List.map_append, List.map_cons, List.map_nil]
    exact ownsRow_setCell_below hrow (by simp) _

theorem Yba.info45 : (Yba.prog.info? 45).map (fun i => (i.zero, i.size, i.bytes)) = some (some (.pointer none), 1, 8) := by kernel_rfl

/-- What the append's law leaves, made ready for the store into the field. -/
theorem pushed {W0 : World} {N c : Nat} {S E : Nat → Int} {fv v' : Value} {w w3 : World} {o : Obj} (h : KRel W0 N S E c fv w)
    (hrow : w3.ownsRow (W0.heap.size + 3) 45 1 v' ((flist S E c).length + 1) ((flist S E c).map (cptr N) ++ [cptr N c])) (hg : (w.alloc o).drew.grownBy w3 fv.ownBlock) :
    (∃ g cp, v' = .slice (some ⟨g, 0, none⟩) ((flist S E c).length + 1) cp) ∧ w3.cell? ⟨W0.heap.size + 1 + 1, 2, none⟩ = some fv ∧ w3.frozen? ⟨W0.heap.size + 1 + 1, 2, none⟩ = false := by
  have hlt := (Array.getElem?_eq_some_iff.1 h.box).1
  have hb3 : w3.heap[W0.heap.size + 1 + 1]? = some (.cells #[.map (some W0.heap.size), .slice none 0 0, fv, .map (some (W0.heap.size + 1)), .slice none 0 0, .int .i64 0, .slice none 0 0] 43 (0, 0)) := by
    have hsz : (w.alloc o).drew.heap.size = w.heap.size + 1 := by show (w.alloc o).heap.size = _; simp
    rw [hg.block _ (by omega) (fun e => by have := (own_block h.row e.symm).1; omega)]
    show (w.alloc o).heap[_]? = _
    rw [Below.heap_alloc _ _ _ (by omega)]; exact h.box
  exact ⟨Joins.ownsRow_form hrow (by omega), by rw [Joins.cell_of_block hb3]; rfl, Joins.unfrozen_of_block hb3 2⟩

theorem KRel.lo {W0 : World} {N c : Nat} {S E : Nat → Int} {fv : Value} {w : World} (h : KRel W0 N S E c fv w) : W0.heap.size + 2 < w.heap.size := (Array.getElem?_eq_some_iff.1 h.box).1

/-- A step of an iterator over a map. -/
theorem KRel.step {W0 : World} {N c b r n : Nat} {S E : Nat → Int} {fv : Value} {w w' : World} {Kp : ByteArray → Prop} {Vp : Value → Prop} (h : KRel W0 N S E c fv w) (hI : Iter w b r Kp Vp n) (hr : W0.heap.size < r) (hg : w.grownBy w' (some r)) : KRel W0 N S E c fv w' := by
  have hlo := h.lo
  refine h.mgr (MGr.of_grown hg (by omega) (by omega) hI.no_cells) (acc_kept h.acc (hg.block _ (by omega) (fun e => by injection e; omega)) fun r' _ hM => hM.block (hg.block _ hM.lt fun e => ?_) fun _ h => h)
  injection e with e
  subst e
  obtain ⟨es, clock, hb, _⟩ := hM
  obtain ⟨_, _, _, _, _, _, _, _, hr', _⟩ := hI
  rw [hb] at hr'
  cases hr'

/-- A store into one of the inner maps. -/
theorem KRel.inner {W0 : World} {N c r : Nat} {S E : Nat → Int} {fv : Value} {w w' : World} (h : KRel W0 N S E c fv w) (hr : W0.heap.size + 2 < r) (hM : MapOf w r (fun _ => True) (fun _ => True)) (hg : w.grownBy w' (some r)) (hM' : MapOf w' r (fun _ => True) (fun _ => True)) : KRel W0 N S E c fv w' := by
  have hlo := h.lo
  refine h.mgr (MGr.of_grown hg (by omega) (by omega) hM.no_cells) (acc_kept h.acc (hg.block _ (by omega) (fun e => by injection e; omega)) fun r' _ hM2 => ?_)
  by_cases e : r' = r
  · subst e; exact hM'
  · exact hM2.block (hg.block _ hM2.lt fun e' => e (by injection e')) fun _ h => h

theorem Iter.keptMap {w w' : World} {b r r2 n : Nat} {Kp : ByteArray → Prop} {Vp Vp' : Value → Prop} {Kq : ByteArray → Prop} {Vq : Value → Prop} (hI : Iter w b r Kp Vp n) (hM : MapOf w r2 Kq Vq) (hb : b ≠ r2) (hg : w.grownBy w' (some r2)) (hv : ∀ v, Vp v → Vp' v) : Iter w' b r Kp Vp' n := by
  obtain ⟨h1, h2⟩ := hI.lt
  refine hI.block (hg.block _ h1 fun e => hb (by injection e)) (hg.block _ h2 fun e => ?_) hv
  injection e with e
  subst e
  obtain ⟨es, clock, hb', _⟩ := hM
  obtain ⟨_, _, _, _, _, _, _, _, hr', _⟩ := hI
  rw [hb'] at hr'
  cases hr'

/-- 'k.accepted[name] = make(map[string]bool)'. -/
theorem KRel.addName {W0 : World} {N c : Nat} {S E : Nat → Int} {fv : Value} {w : World} {s : ByteArray} (h : KRel W0 N S E c fv w) (hs : Name4 s) :
    ∃ w', (Instr.mapUpdate 38 (.map (some W0.heap.size)) (.string s) (.map (some w.heap.size))).run Yba.prog (w.alloc (.map #[] 0)) = .ok () w' ∧ KRel W0 N S E c fv w' ∧ HasKey w' W0.heap.size s ∧ (w.alloc (.map #[] 0)).grownBy w' (some W0.heap.size) ∧ w'.heap.size = w.heap.size + 1 := by
  have hlo := h.lo
  have h1 : KRel W0 N S E c fv (w.alloc (.map #[] 0)) := h.later ((Below.refl _ _).alloc (Nat.le_refl _) _)
  have hin : IsInner (w.alloc (.map #[] 0)) W0.heap.size (.map (some w.heap.size)) := ⟨_, rfl, by omega, MapOf.made _ _ _⟩
  obtain ⟨w', hrun, hM, hK, hg, hsz⟩ := h1.acc.store2 (t := 38) Yba.underlying38 hs.size hs hin
  have hsz' : (w.alloc (.map #[] 0)).heap.size = w.heap.size + 1 := by simp
  have hkeep : ∀ r, W0.heap.size + 2 < r → MapOf (w.alloc (.map #[] 0)) r (fun _ => True) (fun _ => True) → MapOf w' r (fun _ => True) (fun _ => True) := fun r hr hMr =>
    hMr.block (hg.block _ hMr.lt fun e => by injection e; omega) fun _ h => h
  refine ⟨w', hrun, h1.mgr (MGr.of_grown hg (Nat.le_refl _) (by omega) h1.acc.no_cells) (hM.block rfl fun v hv => ?_), hK, hg, by omega⟩
  obtain ⟨r, e1, e2, e3⟩ := hv
  exact ⟨r, e1, e2, hkeep r e2 e3⟩

theorem kinds_end {W0 : World} {N len : Nat} {S E : Nat → Int} {fv nv : Value} {w w2 : World} {o : Obj} (h : KRel W0 N S E len fv w) (hb : Below (w.heap.size + 1) (w.alloc o) w2) :
    w2.cell? ⟨W0.heap.size + 1 + 1, 1, none⟩ = some (.slice none 0 0) ∧ w2.frozen? ⟨W0.heap.size + 1 + 1, 1, none⟩ = false ∧ KEnd W0 N S E len (w2.setCell ⟨W0.heap.size + 1 + 1, 1, none⟩ nv) := by
  have hb2 : Below w.heap.size w w2 := ((Below.refl _ _).alloc (Nat.le_refl _) _).trans (hb.mono (by omega))
  have h2 := h.later hb2
  have hlo := h2.lo
  refine ⟨by rw [Joins.cell_of_block h2.box]; rfl, Joins.unfrozen_of_block h2.box 1, h2.below.setCell (by simp; omega) _, fv, ?_, ?_⟩
  · rw [World.cell?_setCell_other _ _ _ _ (by simp), Joins.cell_of_block h2.box]; rfl
  · exact ownsRow_setCell_below h2.row (by simp) _

set_option maxRecDepth 100000 in
set_option maxHeartbeats 1000000 in
theorem kinds_walk (N B len cap : Nat) (S E : Nat → Int) (hl : (len : Int) ≤ 512) (W0 : World) (hN : N < W0.heap.size) (hB : B ≤ N) (hC : ∀ i, i < len → Con W0 N B S E i) :
    Calls Yba.prog 7 #[.slice (some ⟨N, 0, none⟩) len cap] W0 fun e w' => e = .returned (.pointer (some ⟨W0.heap.size + 1 + 1, 0, none⟩)) ∧ KEnd W0 N S E len w' := by
  have hmm := @run_makeMap Yba.prog
  go_enter Yba.func7, Yba.ntmps7
  go_wp2
  go_loopg [15] (len + 1) (fun k vc wr => ∃ (c : Nat) (fv : Value), vc = .int .i64 c ∧ c ≤ len ∧ len - c < k ∧ KRel W0 N S E c fv wr)
  case atStart =>
    refine ⟨0, .slice none 0 0, rfl, Nat.zero_le _, by omega, ?_⟩
    refine ⟨?_, ?_, ?_, ?_⟩
    · exact (((Below.refl _ _).alloc (Nat.le_refl _) _).alloc (by simp) _).alloc (by simp; omega) _
    · have h1 := MapOf.made W0 Name4 (IsInner (((W0.alloc (.map #[] 0)).alloc (.map #[] 0)).alloc (.cells #[.map (some W0.heap.size), .slice none 0 0, .slice none 0 0, .map (some (W0.heap.size + 1)), .slice none 0 0, .int .i64 0, .slice none 0 0] 43)) W0.heap.size)
      refine h1.block ?_ fun _ h => h
      rw [Below.heap_alloc _ _ _ (by simp; omega), Below.heap_alloc _ _ _ (by simp)]
    · have e : W0.heap.size + 2 = ((W0.alloc (.map #[] 0)).alloc (.map #[] 0)).heap.size := by simp
      rw [e]; exact (MapKept.heap_alloc _ _).1
    · exact World.ownsRow_nil _ _ _ _
  case round =>
    obtain ⟨c, fv, rfl, hc, hk, hR⟩ := hrel
    obtain ⟨hbel, hacc, hbox, hrow⟩ := hR
    have hlo : W0.heap.size + 2 < wr.heap.size := (Array.getElem?_eq_some_iff.1 hbox).1
    by_cases hlt : c < len
    · have hCc : Con wr N B S E c := (hC c hlt).kept (fun j _ => hbel.cell (p := ⟨N, _, none⟩) hN) (fun r _ hr => hbel.block r hr) (hbel.mono (by omega))
      obtain ⟨_, c3, c4, c5, c6, c7, c8⟩ := hCc
      obtain ⟨mv, m0, m2⟩ := (hC c hlt).tgt
      have m1 : wr.cell? ⟨N, c * 9 + 2, none⟩ = some mv := (hbel.cell (p := ⟨N, _, none⟩) hN).trans m0
      clear m0
      rcases m2 with rfl | ⟨tb, htb, rfl, hT0⟩
      · have hrn := run_range_nilMap (P := Yba.prog) wr 47 9 29 Yba.underlying47
        have hnx := fun ty => run_next_nilMap (P := Yba.prog) wr ty 0 0 #[]
        have hK : KRel W0 N S E c fv (wr.alloc (.mapIter none 0 #[] 0)) := KRel.later ⟨hbel, hacc, hbox, hrow⟩ ((Below.refl _ _).alloc (Nat.le_refl _) _)
        have A : Aside (KRel W0 N S E c fv (wr.alloc (.mapIter none 0 #[] 0))) := hK
        have hNw : N < wr.heap.size := by omega
        clear hacc hbox hrow hbel hK
        go_wp2
        refine wp_loop_rounds 1 ?_
        rw [rounds_succ]
        go_wp2_with fail
        refine (hasFlight_any N (c * 9) (S c) (E c) _ (by simpa [World.cell?_alloc_past _ _ _ hNw] using c3) (by simpa [World.cell?_alloc_past _ _ _ hNw] using c4) (by simpa [World.cell?_alloc_past _ _ _ hNw] using c5) (by simpa [World.cell?_alloc_past _ _ _ hNw] using c6) (by simpa [World.cell?_alloc_past _ _ _ hNw] using c7) (by simpa [World.cell?_alloc_past _ _ _ hNw] using c8) (by simp; omega)).mono ?_
        rintro e w1 ⟨rfl, hb1⟩
        have hK1 := A.out.later hb1
        clear hb1 A c3 c4 c5 c6 c7 c8 hrn hnx m1
        by_cases hf : S c ≠ 0 ∨ E c ≠ 0
        · have hd : decide (S c ≠ 0 ∨ E c ≠ 0) = true := by simpa using hf
          have hbox := hK1.box
          have b2 : w1.cell? ⟨W0.heap.size + 1 + 1, 2, none⟩ = some fv := by rw [Joins.cell_of_block hbox]; rfl
          have f2 : w1.frozen? ⟨W0.heap.size + 1 + 1, 2, none⟩ = false := Joins.unfrozen_of_block hbox 2
          have hrow := hK1.row
          have hlo1 : W0.heap.size + 2 < w1.heap.size := (Array.getElem?_eq_some_iff.1 hbox).1
          have A : Aside (KRel W0 N S E c fv w1) := hK1
          have Hf : Aside (S c ≠ 0 ∨ E c ≠ 0) := hf
          have Hrow : Aside (w1.ownsRow (W0.heap.size + 3) 45 1 fv (flist S E c).length ((flist S E c).map (cptr N))) := hrow
          rw [hd]
          clear hK1 hf hd hbox hrow
          obtain ⟨i0, hi, hz0, hz1, hz2⟩ := info_parts Yba.info45
          have hle := flist_le S E c
          have Hone : Aside (0 < 1) := by show 0 < 1; decide
          have Hown1 : Aside ((w1.alloc (.cells #[.pointer (some ⟨N, c * 9, none⟩)] 45)).drew.ownsRow (W0.heap.size + 3) 45 1 fv (flist S E c).length ((flist S E c).map (cptr N))) := World.ownsRow.alloc Hrow.out _
          have Hnews : Aside (∀ (j : Nat) u, [cptr N c][j]? = some u → (w1.alloc (.cells #[.pointer (some ⟨N, c * 9, none⟩)] 45)).drew.cell? (Addr.add ⟨w1.heap.size, 0, none⟩ j) = some u) := cell_one_new _ _ _
          have H1c : Aside (∀ u ∈ [cptr N c], u.oneCell' = true) := by show ∀ u ∈ [cptr N c], u.oneCell' = true; intro u hu; simp at hu; subst hu; rfl
          have Hbase : Aside (W0.heap.size + 3 ≤ (w1.alloc (.cells #[.pointer (some ⟨N, c * 9, none⟩)] 45)).drew.heap.size) := by show W0.heap.size + 3 ≤ (w1.alloc _).heap.size; simp; omega
          have Hb1 : Aside ((flist S E c).length + 1 ≤ maxLen) := by show _ ≤ _; unfold maxLen; omega
          have Hb2 : Aside (((flist S E c).length + 1) * 8 ≤ 140737488355328) := by show _ ≤ _; omega
          go_wp2
          go_region_law (refine step_append_own rfl (.tmp 66) (.tmp 70) 39 rfl (W0.heap.size + 3) 45 i0 (.pointer none) 1 8 Yba.underlying39 hi hz0 hz1 hz2 rfl Hone.out fv (flist S E c).length ((flist S E c).map (cptr N)) rfl Hown1.out ⟨w1.heap.size, 0, none⟩ 1 1 [cptr N c] rfl rfl Hnews.out H1c.out Hb1.out Hb2.out Hbase.out ?_; intro v' w3 hown hgrow; have P := pushed A.out hown hgrow; obtain ⟨⟨g, cp, hv⟩, b3, f3⟩ := P; have R : Aside (KRel W0 N S E (c + 1) v' (w3.setCell ⟨W0.heap.size + 1 + 1, 2, none⟩ v')) := KRel.push A.out Hf.out hown hgrow; clear hown hgrow; rw [hv]; rw [hv] at R; clear hv)
          all_goals
            go_wp2
            go_roundg (len - c)
            case measure => omega
            case rel => exact ⟨c + 1, _, by go_num, by omega, by omega, R.out⟩
        · have hd : decide (S c ≠ 0 ∨ E c ≠ 0) = false := by simpa using hf
          rw [hd]
          have A : Aside (KRel W0 N S E (c + 1) fv w1) := hK1.skip hf
          clear hK1 hf hd
          go_wp2
          go_roundg (len - c)
          case measure => omega
          case rel => exact ⟨c + 1, fv, by go_num, by omega, by omega, A.out⟩
      · obtain ⟨wo, rfl⟩ : ∃ wo : World, wo = wr := ⟨_, rfl⟩
        have htW := hT0.lt
        have hT : MapOf wo tb Name4 (Strs wo B) := hT0.block (hbel.block _ htW) fun v hv => SliceOf.kept hv (hbel.mono (by omega)) fun _ h => h
        obtain ⟨wI, cnt, hrun, hIt, hgI, hsI⟩ := hT.range (t := 47) (e := 29) Yba.underlying47
        have hK : KRel W0 N S E c fv wo := ⟨hbel, hacc, hbox, hrow⟩
        have hBI : Below wo.heap.size wo wI := ⟨hgI.os, hgI.tape, hgI.output, hgI.size, fun k hk => hgI.block k hk (by simp)⟩
        have hKI : KRel W0 N S E c fv wI := hK.later hBI
        have hII : Iter wI tb wo.heap.size Name4 (Strs wI B) cnt := hIt.block rfl rfl fun v hv => SliceOf.kept hv (hBI.mono (by omega)) fun _ h => h
        have A : Aside (KRel W0 N S E c fv wI ∧ Iter wI tb wo.heap.size Name4 (Strs wI B) cnt) := ⟨hKI, hII⟩
        clear hK hKI hII hIt hgI hBI hT hT0 hbel hacc hbox hrow
        go_wp2
        go_loopg [] (cnt + 1) (fun k wx => KRel W0 N S E c fv wx ∧ ∃ n, Iter wx tb wo.heap.size Name4 (Strs wx B) n ∧ n < k)
        case atStart => exact ⟨A.out.1, cnt, A.out.2, by omega⟩
        case round =>
          obtain ⟨hK, n, hI, hn⟩ := hrel
          obtain ⟨gm, rfl⟩ : ∃ g : Nat, g = gk := ⟨_, rfl⟩
          obtain ⟨wm, rfl⟩ : ∃ wm : World, wm = wr := ⟨_, rfl⟩
          have hlo2 := hK.lo
          clear A m1 c3 c4 c5 c6 c7 c8
          rcases hI.next 0 with hnx | ⟨ns, vv, w1, n1, hnsz, hns, hvv, hnx, hI1, hn1, hg1, hs1, hen⟩
          · obtain ⟨_, d3, d4, d5, d6, d7, d8⟩ := (hC c hlt).kept (fun j _ => hK.below.cell (p := ⟨N, _, none⟩) hN) (fun r _ hr => hK.below.block r hr) (hK.below.mono (by omega))
            have A : Aside (KRel W0 N S E c fv wm) := hK
            clear hK hI
            go_wp2_with fail
            refine (hasFlight_any N (c * 9) (S c) (E c) _ d3 d4 d5 d6 d7 d8 (by omega)).mono ?_
            rintro e w1 ⟨rfl, hb1⟩
            have hK1 := A.out.later hb1
            clear hb1 A d3 d4 d5 d6 d7 d8 hnx
            by_cases hf : S c ≠ 0 ∨ E c ≠ 0
            · have hd : decide (S c ≠ 0 ∨ E c ≠ 0) = true := by simpa using hf
              have hbox := hK1.box
              have b2 : w1.cell? ⟨W0.heap.size + 1 + 1, 2, none⟩ = some fv := by rw [Joins.cell_of_block hbox]; rfl
              have f2 : w1.frozen? ⟨W0.heap.size + 1 + 1, 2, none⟩ = false := Joins.unfrozen_of_block hbox 2
              have hrow := hK1.row
              have hlo1 : W0.heap.size + 2 < w1.heap.size := (Array.getElem?_eq_some_iff.1 hbox).1
              have A : Aside (KRel W0 N S E c fv w1) := hK1
              have Hf : Aside (S c ≠ 0 ∨ E c ≠ 0) := hf
              have Hrow : Aside (w1.ownsRow (W0.heap.size + 3) 45 1 fv (flist S E c).length ((flist S E c).map (cptr N))) := hrow
              rw [hd]
              clear hK1 hf hd hbox hrow
              obtain ⟨i0, hi, hz0, hz1, hz2⟩ := info_parts Yba.info45
              have hle := flist_le S E c
              have Hone : Aside (0 < 1) := by show 0 < 1; decide
              have Hown1 : Aside ((w1.alloc (.cells #[.pointer (some ⟨N, c * 9, none⟩)] 45)).drew.ownsRow (W0.heap.size + 3) 45 1 fv (flist S E c).length ((flist S E c).map (cptr N))) := World.ownsRow.alloc Hrow.out _
              have Hnews : Aside (∀ (j : Nat) u, [cptr N c][j]? = some u → (w1.alloc (.cells #[.pointer (some ⟨N, c * 9, none⟩)] 45)).drew.cell? (Addr.add ⟨w1.heap.size, 0, none⟩ j) = some u) := cell_one_new _ _ _
              have H1c : Aside (∀ u ∈ [cptr N c], u.oneCell' = true) := by show ∀ u ∈ [cptr N c], u.oneCell' = true; intro u hu; simp at hu; subst hu; rfl
              have Hbase : Aside (W0.heap.size + 3 ≤ (w1.alloc (.cells #[.pointer (some ⟨N, c * 9, none⟩)] 45)).drew.heap.size) := by show W0.heap.size + 3 ≤ (w1.alloc _).heap.size; simp; omega
              have Hb1 : Aside ((flist S E c).length + 1 ≤ maxLen) := by show _ ≤ _; unfold maxLen; omega
              have Hb2 : Aside (((flist S E c).length + 1) * 8 ≤ 140737488355328) := by show _ ≤ _; omega
              go_wp2
              go_region_law (refine step_append_own rfl (.tmp 66) (.tmp 70) 39 rfl (W0.heap.size + 3) 45 i0 (.pointer none) 1 8 Yba.underlying39 hi hz0 hz1 hz2 rfl Hone.out fv (flist S E c).length ((flist S E c).map (cptr N)) rfl Hown1.out ⟨w1.heap.size, 0, none⟩ 1 1 [cptr N c] rfl rfl Hnews.out H1c.out Hb1.out Hb2.out Hbase.out ?_; intro v' w3 hown hgrow; have P := pushed A.out hown hgrow; obtain ⟨⟨g, cp, hv⟩, b3, f3⟩ := P; have R : Aside (KRel W0 N S E (c + 1) v' (w3.setCell ⟨W0.heap.size + 1 + 1, 2, none⟩ v')) := KRel.push A.out Hf.out hown hgrow; clear hown hgrow; rw [hv]; rw [hv] at R; clear hv)
              all_goals
                go_wp2
                go_roundg (len - c)
                case measure => omega
                case rel => exact ⟨c + 1, _, by go_num, by omega, by omega, R.out⟩
            · have hd : decide (S c ≠ 0 ∨ E c ≠ 0) = false := by simpa using hf
              rw [hd]
              have A : Aside (KRel W0 N S E (c + 1) fv w1) := hK1.skip hf
              clear hK1 hf hd
              go_wp2
              go_roundg (len - c)
              case measure => omega
              case rel => exact ⟨c + 1, fv, by go_num, by omega, by omega, A.out⟩
          · have hK1 : KRel W0 N S E c fv w1 := hK.step hI (by omega) hg1
            have hb1 : Below B wm w1 := ⟨hg1.os, hg1.tape, hg1.output, hg1.size, fun k hk => hg1.block k (by omega) fun e => by injection e; omega⟩
            have hI1' : Iter w1 tb wo.heap.size Name4 (Strs w1 B) n1 := hI1.block rfl rfl fun v hv => SliceOf.kept hv hb1 fun _ h => h
            obtain ⟨va, vl, vc, rfl, hvl, hvs⟩ := hvv
            have hvs0 : ∀ j, j < vl → ∃ bb oo u, va = some ⟨bb, oo, none⟩ ∧ bb < B ∧ W0.cell? ⟨bb, oo + j, none⟩ = some u ∧ IsStr u := fun j hj => by
              obtain ⟨bb, oo, u, e1, e2, e3, e4⟩ := hvs j hj
              exact ⟨bb, oo, u, e1, e2, (hK.below.cell (p := ⟨bb, oo + j, none⟩) (by show bb < _; omega)).symm.trans e3, e4⟩
            have b1 : w1.cell? ⟨W0.heap.size + 1 + 1, 0, none⟩ = some (.map (some W0.heap.size)) := by rw [Joins.cell_of_block hK1.box]; rfl
            have hlo1 := hK1.lo
            have heql := fun (r : Option Nat) (W : World) => run_eql_map_nil (P := Yba.prog) W 37 9 4 r Yba.underlying37
            obtain ⟨v0, hl0, hv0⟩ := hK1.acc.look2 (t := 38) (e := 37) Yba.underlying38 (z := .map none) (by rfl) hns.size
            rcases hv0 with rfl | ⟨⟨r0, rfl, hr0, hM0⟩, hH0⟩
            · obtain ⟨w2, hadd, hK2, hH2, hg2, hs2⟩ := hK1.addName hns
              have hb2 : Below B w1 w2 := by
                have h1 : Below B w1 (w1.alloc (.map #[] 0)) := (Below.refl _ _).alloc (by omega) _
                refine h1.trans ⟨hg2.os, hg2.tape, hg2.output, hg2.size, fun k hk => hg2.block k ?_ fun e => by injection e; omega⟩
                simp; omega
              have hI2 : Iter w2 tb wo.heap.size Name4 (Strs w2 B) n1 := by
                have hIa : Iter (w1.alloc (.map #[] 0)) tb wo.heap.size Name4 (Strs w1 B) n1 := hI1'.block (Below.heap_alloc _ _ _ hI1'.lt.1) (Below.heap_alloc _ _ _ hI1'.lt.2) fun _ h => h
                exact hIa.block (hg2.block _ hIa.lt.1 fun e => by injection e; omega) (hg2.block _ hIa.lt.2 fun e => by injection e; omega) fun v hv => SliceOf.kept hv hb2 fun _ h => h
              have A3 : Aside (KRel W0 N S E c fv w2 ∧ HasKey w2 W0.heap.size ns ∧ Iter w2 tb wo.heap.size Name4 (Strs w2 B) n1) := ⟨hK2, hH2, hI2⟩
              clear hK hI hI1 hI1' hb1 hg1 hs1 hvs hK1 hK2 hH2 hg2 hs2 hb2 hI2
              go_wp2
              go_loopg [44] (vl + 1) (fun k vp wy => ∃ p : Nat, vp = .int .i64 p ∧ p ≤ vl ∧ vl - p < k ∧ KRel W0 N S E c fv wy ∧ HasKey wy W0.heap.size ns ∧ Iter wy tb wo.heap.size Name4 (Strs wy B) n1)
              case atStart => exact ⟨0, rfl, Nat.zero_le _, by omega, A3.out⟩
              case round =>
                obtain ⟨p, rfl, hp, hkp, hK, hH, hI2⟩ := hrel
                have hlo2 := hK.lo
                have b0 : wr.cell? ⟨W0.heap.size + 1 + 1, 0, none⟩ = some (.map (some W0.heap.size)) := by rw [Joins.cell_of_block hK.box]; rfl
                by_cases hpl : p < vl
                · obtain ⟨sb, so, su, hva, hsb, hsu, ⟨us, rfl, hus⟩⟩ := hvs0 p hpl
                  have hsx : wr.cell? ⟨sb, so + p, none⟩ = some (.string us) := ((hK.below).cell (p := ⟨sb, so + p, none⟩) (by show sb < _; omega)).trans hsu
                  obtain ⟨iv, hlook, r2, hiv, hr2, hM2⟩ := hK.acc.look_has (t := 38) (e := 37) Yba.underlying38 hns.size hH
                  subst hiv
                  obtain ⟨w2, hupd, hM3, hg3, hs3⟩ := hM2.store (t := 37) (e := 4) Yba.underlying37 hus trivial (v := .bool true) trivial
                  have hK2 : KRel W0 N S E c fv w2 := hK.inner hr2 hM2 hg3 hM3
                  have hb3 : Below B wr w2 := ⟨hg3.os, hg3.tape, hg3.output, hg3.size, fun k hk => hg3.block k (by omega) fun e => by injection e; omega⟩
                  have hI3 : Iter w2 tb wo.heap.size Name4 (Strs w2 B) n1 := hI2.keptMap hM2 (by omega) hg3 fun v hv => SliceOf.kept hv hb3 fun _ h => h
                  have hH3 : HasKey w2 W0.heap.size ns := hH.block (hg3.block _ (by omega) fun e => by injection e; omega)
                  have R1 : Aside (KRel W0 N S E c fv wr ∧ HasKey wr W0.heap.size ns ∧ Iter wr tb wo.heap.size Name4 (Strs wr B) n1) := ⟨hK, hH, hI2⟩
                  have R2 : Aside (KRel W0 N S E c fv w2 ∧ HasKey w2 W0.heap.size ns ∧ Iter w2 tb wo.heap.size Name4 (Strs w2 B) n1) := ⟨hK2, hH3, hI3⟩
                  clear hK hH hI2 hM2 hM3 hg3 hs3 hK2 hb3 hI3 hH3
                  subst hva
                  go_wp2
                  all_goals
                    go_roundg (vl - p)
                    case measure => omega
                    case rel => first | exact ⟨p + 1, by go_num, by omega, by omega, R2.out⟩ | exact ⟨p + 1, by go_num, by omega, by omega, R1.out⟩
                · have R1 : Aside (KRel W0 N S E c fv wr ∧ Iter wr tb wo.heap.size Name4 (Strs wr B) n1) := ⟨hK, hI2⟩
                  clear hK hH hI2
                  go_wp2
                  go_roundg (n1 + 1)
                  case measure => omega
                  case rel => exact ⟨R1.out.1, n1, R1.out.2, by omega⟩
            · have A3 : Aside (KRel W0 N S E c fv w1 ∧ HasKey w1 W0.heap.size ns ∧ Iter w1 tb wo.heap.size Name4 (Strs w1 B) n1) := ⟨hK1, hH0, hI1'⟩
              clear hK hI hI1 hI1' hb1 hg1 hs1 hvs hK1 hM0 hH0
              go_wp2
              go_loopg [44] (vl + 1) (fun k vp wy => ∃ p : Nat, vp = .int .i64 p ∧ p ≤ vl ∧ vl - p < k ∧ KRel W0 N S E c fv wy ∧ HasKey wy W0.heap.size ns ∧ Iter wy tb wo.heap.size Name4 (Strs wy B) n1)
              case atStart => exact ⟨0, rfl, Nat.zero_le _, by omega, A3.out⟩
              case round =>
                obtain ⟨p, rfl, hp, hkp, hK, hH, hI2⟩ := hrel
                have hlo2 := hK.lo
                have b0 : wr.cell? ⟨W0.heap.size + 1 + 1, 0, none⟩ = some (.map (some W0.heap.size)) := by rw [Joins.cell_of_block hK.box]; rfl
                by_cases hpl : p < vl
                · obtain ⟨sb, so, su, hva, hsb, hsu, ⟨us, rfl, hus⟩⟩ := hvs0 p hpl
                  have hsx : wr.cell? ⟨sb, so + p, none⟩ = some (.string us) := ((hK.below).cell (p := ⟨sb, so + p, none⟩) (by show sb < _; omega)).trans hsu
                  obtain ⟨iv, hlook, r2, hiv, hr2, hM2⟩ := hK.acc.look_has (t := 38) (e := 37) Yba.underlying38 hns.size hH
                  subst hiv
                  obtain ⟨w2, hupd, hM3, hg3, hs3⟩ := hM2.store (t := 37) (e := 4) Yba.underlying37 hus trivial (v := .bool true) trivial
                  have hK2 : KRel W0 N S E c fv w2 := hK.inner hr2 hM2 hg3 hM3
                  have hb3 : Below B wr w2 := ⟨hg3.os, hg3.tape, hg3.output, hg3.size, fun k hk => hg3.block k (by omega) fun e => by injection e; omega⟩
                  have hI3 : Iter w2 tb wo.heap.size Name4 (Strs w2 B) n1 := hI2.keptMap hM2 (by omega) hg3 fun v hv => SliceOf.kept hv hb3 fun _ h => h
                  have hH3 : HasKey w2 W0.heap.size ns := hH.block (hg3.block _ (by omega) fun e => by injection e; omega)
                  have R1 : Aside (KRel W0 N S E c fv wr ∧ HasKey wr W0.heap.size ns ∧ Iter wr tb wo.heap.size Name4 (Strs wr B) n1) := ⟨hK, hH, hI2⟩
                  have R2 : Aside (KRel W0 N S E c fv w2 ∧ HasKey w2 W0.heap.size ns ∧ Iter w2 tb wo.heap.size Name4 (Strs w2 B) n1) := ⟨hK2, hH3, hI3⟩
                  clear hK hH hI2 hM2 hM3 hg3 hs3 hK2 hb3 hI3 hH3
                  subst hva
                  go_wp2
                  all_goals
                    go_roundg (vl - p)
                    case measure => omega
                    case rel => first | exact ⟨p + 1, by go_num, by omega, by omega, R2.out⟩ | exact ⟨p + 1, by go_num, by omega, by omega, R1.out⟩
                · have R1 : Aside (KRel W0 N S E c fv wr ∧ Iter wr tb wo.heap.size Name4 (Strs wr B) n1) := ⟨hK, hI2⟩
                  clear hK hH hI2
                  go_wp2
                  go_roundg (n1 + 1)
                  case measure => omega
                  case rel => exact ⟨R1.out.1, n1, R1.out.2, by omega⟩
    · obtain rfl : c = len := by omega
      have A : Aside (KRel W0 N S E c fv wr) := ⟨hbel, hacc, hbox, hrow⟩
      have b0 : wr.cell? ⟨W0.heap.size + 1 + 1, 0, none⟩ = some (.map (some W0.heap.size)) := by rw [Joins.cell_of_block hbox]; rfl
      have Hacc : Aside (MapOf wr W0.heap.size Name4 (IsInner wr W0.heap.size)) := hacc
      clear hbel hacc hbox hrow
      go_wp2_with fail
      refine (keys_calls _ _).mono ?_
      rintro e w1 ⟨rfl, rfl⟩
      go_wp2_with fail
      refine (sorted_calls _ _ Hacc.out).mono ?_
      rintro e w2 ⟨⟨na, nl, nc, rfl⟩, hb2⟩
      obtain ⟨g1, g2, g3⟩ := kinds_end (nv := .slice na nl nc) A.out hb2
      have G : Aside (KEnd W0 N S E c (w2.setCell ⟨W0.heap.size + 1 + 1, 1, none⟩ (.slice na nl nc))) := g3
      clear g3 hb2
      go_wp2
      go_ret
      exact ⟨rfl, G.out⟩
end Go.Proofs.Ybulkcela
