/-
  LawS4032CSingleStep: 'PhasesOf', where all blocks end together (seat b4032aZ).
-/
import Derived.Test.YbulkcemcGreatMost
import Derived.Maps.AppendAt
namespace Go.Proofs.YbulkcemcGreat
open Go.RowKit Go.Shelf Go.Lib Go.Sort

/-- Blocks that all end at 0, in memory. -/
def BlocksAt (w : World) (b : Nat) (l : List Int) : Prop := ∀ j, j < l.length → w.cell? ⟨b, j * 2, none⟩ = some (.float .f64 0) ∧ w.cell? ⟨b, j * 2 + 1, none⟩ = some (.int .i64 (l.getD j 0))

theorem swK_heap {α : Type} [Inhabited α] (enc : α → List Value) (k : Nat) (w : World) (blk off n : Nat) (d : Array α) (os : Array Obj) (j : Nat) (h1 : j ≠ blk) (h2 : j < w.heap.size) : (sortWorldK enc k w blk off n d os).heap[j]? = w.heap[j]? := by
  show ((w.heap.modify blk (onCells (putCells id off (flatK enc k d)))) ++ os)[j]? = w.heap[j]?
  rw [Array.getElem?_append_left (by simpa using h2), Array.getElem?_modify, if_neg (Ne.symm h1)]

theorem swK_block {α : Type} [Inhabited α] (enc : α → List Value) (k : Nat) (w : World) (blk off n : Nat) (d : Array α) (os : Array Obj) {cur : Array Value} {t : TypeId} (h : w.heap[blk]? = some (.cells cur t (0, 0))) :
    ∃ cur' : Array Value, cur'.size = cur.size ∧ (sortWorldK enc k w blk off n d os).heap[blk]? = some (.cells cur' t (0, 0)) := by
  have hlt := (Array.getElem?_eq_some_iff.1 h).1
  refine ⟨putCells id off (flatK enc k d) cur, by simp [putCells], ?_⟩
  show ((w.heap.modify blk (onCells (putCells id off (flatK enc k d)))) ++ os)[blk]? = _
  rw [Array.getElem?_append_left (by simpa using hlt), Array.getElem?_modify, if_pos rfl, h]
  rfl

theorem swK_but {α : Type} [Inhabited α] (enc : α → List Value) (k : Nat) (w : World) (blk off n : Nat) (d : Array α) (os : Array Obj) (hb : blk < w.heap.size) : But blk w (sortWorldK enc k w blk off n d os) := by
  refine ⟨size_sortWorldK_c enc k w blk off n d os, fun j h1 h2 => swK_heap enc k w blk off n d os j h1 h2, ?_⟩
  refine ⟨rfl, rfl, rfl, size_sortWorldK_c enc k w blk off n d os, fun j hj => swK_heap enc k w blk off n d os j (by omega) (by omega)⟩

def sortI (l : List Int) : List Int := l.mergeSort fun x y => decide (x ≤ y)
theorem sortI_sorted (l : List Int) : (sortI l).Pairwise (· ≤ ·) := by
  have h := List.pairwise_mergeSort (le := fun x y : Int => decide (x ≤ y)) (fun a b c h1 h2 => by simp at *; omega) (fun a b => by simp; omega) l
  exact h.imp (fun h => by simpa using h)
theorem sortI_mem {l : List Int} {x : Int} : x ∈ sortI l ↔ x ∈ l := List.mem_mergeSort
theorem sortI_length (l : List Int) : (sortI l).length = l.length := List.length_mergeSort l

theorem ltB (x y : Int) : ltOf cmpI x y = decide (x < y) := ltOf_cmpI x y
theorem swoB : SWO (ltOf cmpI) where
  irrefl x := by rw [ltB]; simp
  trans x y z h1 h2 := by rw [ltB] at *; simp at *; omega
  ntrans x y z h1 h2 := by rw [ltB] at *; simp at *; omega

theorem holds_blocks {w : World} {b : Nat} {l : List Int} (h : HoldsK encB 2 w b 0 l.toArray) : BlocksAt w b l := by
  intro j hj
  have hs : j < l.toArray.size := by simpa using hj
  have h0 := (h.cell (i := j) (c := 0) hs (by omega)).1
  have h1 := (h.cell (i := j) (c := 1) hs (by omega)).1
  have e : l.toArray[j]! = l.getD j 0 := by simp [List.getD, hj]
  rw [e] at h0 h1
  simp only [Nat.zero_add, Nat.add_zero] at h0 h1
  exact ⟨h0, h1⟩

theorem sort51 (b c : Nat) (l : List Int) (w : World) (hH : HoldsK encB 2 w b 0 l.toArray) (hb : b < w.heap.size) (hl : l.length ≤ 1000) :
    Calls Ybaz.prog 51 #[.slice (some ⟨b, 0, none⟩) l.length c, .func (.func 52) #[] #[]] w fun e w' => (∃ v, e = .returned v) ∧ But b w w' ∧ BlocksAt w' b (sortI l) := by
  have eg : ∀ args w, (callFunc 52 args).run Ybaz.prog w = .ok (.enter 52 args) w := enters_of Ybaz.func52 (by kernel_rfl) rfl
  have h := AnyQ.slices_SortFunc_total Ybaz.sortB 2 Ybaz.isAgg39 Ybaz.sizeOf39 encB (fun _ => rfl) (fun x v hv => by simp [encB] at hv; rcases hv with rfl | rfl <;> rfl) cmpI swoB 52 #[] b 0 c l.toArray w eg (fun m os dk _ x y => closure52 x y _) hH hb (by simp; omega) (fun x y h1 h2 => by rw [ltB] at *; simp at *; omega)
  simp only [List.size_toArray] at h
  change Calls Ybaz.prog 51 _ _ _ at h
  refine h.mono fun e w' ⟨he, n, os, hw⟩ => ⟨⟨_, he⟩, ?_, ?_⟩
  · rw [hw]; exact swK_but _ _ _ _ _ _ _ _ hb
  · have e2 : (l.mergeSort fun x y => !(ltOf cmpI) y x) = sortI l := by
      unfold sortI
      congr 1
      funext x y
      rw [ltB]
      by_cases hh : y < x
      · simp [hh]
      · simp [hh]; omega
    rw [e2] at hw
    rw [hw]
    exact holds_blocks (holdsK_sortWorldK_c encB 2 w b 0 l.toArray (sortI l).toArray n os hH hb (by simp [sortI_length]))

theorem info64 : (Ybaz.prog.info? 64).map (fun i => (i.zero, i.size, i.bytes)) = some (some (.agg #[.float .f64 0, .slice none 0 0]), 2, 32) := by kernel_rfl

theorem IntsAt.of_row {w : World} {base n : Nat} {a : Option Addr} {c : Nat} {M : List Int} (h : w.ownsRow base 3 1 (.slice a n c) n (M.map fun x => .int .i64 x)) (hn : n = M.length) (h0 : 0 < n) : ∃ g, a = some ⟨g, 0, none⟩ ∧ g < w.heap.size ∧ base ≤ g ∧ IntsAt w g M := by
  rcases h.2 with ⟨e1, e2⟩ | ⟨g, cp, cur, e1, hbg, hg, hrest⟩
  · omega
  · injection e1 with h1 h2 h3
    subst h1 h3
    refine ⟨g, rfl, (Array.getElem?_eq_some_iff.1 hg).1, hbg, fun j hj => ?_⟩
    rw [h.cellAt j (by omega), List.getElem?_map, List.getElem?_eq_getElem hj]
    simp [List.getD, hj]

theorem while_len {p : Int → Bool} : ∀ (K : List Int) (n : Nat), (∀ j, j < n → ∃ y, K[j]? = some y ∧ p y = true) → (n = K.length ∨ ∃ y, K[n]? = some y ∧ p y = false) → (K.takeWhile p).length = n ∧ K.dropWhile p = K.drop n
  | [], n, _, h2 => by
    rcases h2 with h2 | ⟨y, hy, _⟩
    · subst h2; simp
    · simp at hy
  | a :: t, 0, _, h2 => by
    rcases h2 with h2 | ⟨y, hy, hp⟩
    · simp at h2
    · simp at hy; subst hy; simp [hp]
  | a :: t, n + 1, h1, h2 => by
    obtain ⟨y, hy, hp⟩ := h1 0 (by omega)
    simp at hy
    subst hy
    have ih := while_len t n (fun j hj => by simpa using h1 (j + 1) (by omega)) (by
      rcases h2 with h2 | ⟨y, hy, hq⟩
      · left; simpa using h2
      · right; exact ⟨y, by simpa using hy, hq⟩)
    simp [hp, ih.1, ih.2]

/-- A run of one SM's blocks, from place i on. -/
theorem run_at {L : List Int} {i cnt : Nat} {sm : Int} (hi : i < L.length) (hsm : L.getD i 0 = sm) (h1 : ∀ j, j < cnt → L.getD (i + j) 0 = sm) (hc : i + cnt ≤ L.length) (h2 : i + cnt = L.length ∨ L.getD (i + cnt) 0 ≠ sm) (f : Nat) (st : Nat × List Int) (hf : L.length ≤ f) :
    0 < cnt ∧ mostFrom f (L.drop (i + cnt)) (mostStep st sm cnt) = mostFrom f (L.drop i) st := by
  have hpos : 0 < cnt := by
    rcases h2 with h2 | h2
    · omega
    · refine Nat.pos_of_ne_zero fun e => ?_
      subst e
      exact h2 (by simpa using hsm)
  refine ⟨hpos, ?_⟩
  have hd : L.drop i = sm :: L.drop (i + 1) := by
    rw [List.drop_eq_getElem_cons hi]
    congr 1
    rw [← hsm, List.getD, List.getElem?_eq_getElem hi]; rfl
  have hget : ∀ j, i + j < L.length → (L.drop i)[j]? = some (L.getD (i + j) 0) := fun j hj => by
    rw [List.getElem?_drop, List.getD, List.getElem?_eq_getElem hj]; rfl
  obtain ⟨e1, e2⟩ := while_len (p := (· == sm)) (L.drop i) cnt (fun j hj => ⟨_, hget j (by omega), by rw [h1 j hj]; simp⟩) (by
    rcases h2 with h2 | h2
    · left; simp; omega
    · by_cases he : i + cnt = L.length
      · left; simp; omega
      · right; exact ⟨_, hget cnt (by omega), by simpa using h2⟩)
  rw [hd] at e1 e2
  simp only [List.takeWhile_cons, beq_self_eq_true, if_true, List.length_cons, List.dropWhile_cons] at e1 e2
  have e3 : (sm :: L.drop (i + 1)).drop cnt = L.drop (i + cnt) := by rw [← hd, List.drop_drop]
  rw [e3] at e2
  have hstep : mostFrom (f + 1) (L.drop i) st = mostFrom f (L.drop (i + cnt)) (mostStep st sm cnt) := by
    rw [hd, mostFrom, e2, show 1 + ((L.drop (i + 1)).takeWhile (· == sm)).length = cnt by omega]
  rw [← hstep]
  exact mostFrom_fuel _ _ _ _ (by simp; omega) (by simp; omega)

/-- Between two runs of one SM's blocks. -/
structure PhI (w1 : World) (B : Nat) (l : List Int) (i : Nat) (st : Nat × List Int) (wr : World) : Prop where
  below : Below B w1 wr
  size : B < wr.heap.size
  row : ∃ v, wr.heap[B]? = some (.cells #[.float .f64 0, v] 64 (0, 0)) ∧ wr.ownsRow (B + 1) 3 1 v st.2.length (st.2.map fun x => .int .i64 x)
  fin : mostFrom l.length (l.drop i) st = mostFrom l.length l (0, [])
  few : st.2.length ≤ i

theorem PhI.drew {w1 : World} {B : Nat} {l : List Int} {i : Nat} {st : Nat × List Int} {wr : World} (h : PhI w1 B l i st wr) (q : Nat) : PhI w1 B l i st (wr.drewN q) := by
  obtain ⟨h1, h2, ⟨v, h3, h4⟩, h5, h6⟩ := h
  exact ⟨h1.trans (below_drewN _ _ _), h2, ⟨v, h3, h4⟩, h5, h6⟩

set_option linter.unusedSimpArgs false in
set_option maxRecDepth 100000 in
set_option maxHeartbeats 1000000 in
theorem phases22 (b c : Nat) (l : List Int) (w : World) (hH : HoldsK encB 2 w b 0 l.toArray) (hb : b < w.heap.size) (h0 : l ≠ []) (hl : l.length ≤ 1000) :
    Calls Ybaz.prog 22 #[.slice (some ⟨b, 0, none⟩) l.length c] w fun e w' => ∃ v, e = .returned v ∧ Phased b (mostOf (sortI l)) w v w' := by
  have hsort := sort51 b c l w hH hb hl
  have hlen := sortI_length l
  obtain ⟨L, hL⟩ : ∃ L, sortI l = L := ⟨_, rfl⟩
  have hLs : L.Pairwise (· ≤ ·) := by rw [← hL]; exact sortI_sorted l
  rw [hL] at hsort hlen ⊢
  rw [← hlen] at hsort hl ⊢
  have hpos : 0 < L.length := by rw [hlen]; exact List.length_pos_iff.2 h0
  have hmne : mostOf L ≠ [] := (mostOf_facts hLs (List.length_pos_iff.1 hpos)).2.2
  clear hL hlen h0 hH hLs
  have ho : FloatKind.f64.format.order 0 0 = some Ordering.eq := by kernel_rfl
  go_enter Ybaz.func22, Ybaz.ntmps22
  go_wp2_with (go_at_call 51; refine hsort.mono ?_; rintro e w1 ⟨⟨v0, rfl⟩, hbut, hBl⟩)
  clear hsort
  have hsz := hbut.size
  go_loopg [3, 4] 2 (fun q vp vi wr => (q = 2 ∧ vp = .slice none 0 0 ∧ vi = .int .i64 0 ∧ wr = w1) ∨ (q = 1 ∧ vi = .int .i64 L.length ∧ Phased b (mostOf L) w vp wr))
  case atStart => exact .inl ⟨rfl, rfl, rfl, rfl⟩
  case round =>
    rcases hrel with ⟨rfl, rfl, rfl, hw1⟩ | ⟨rfl, rfl, hP⟩
    · rw [hw1]
      clear hw1 wr
      have hf0 := (hBl 0 hpos).1
      have hpos' : (0 : Int) < (L.length : Int) := by omega
      simp only [Nat.zero_mul] at hf0
      have hst := store_float (w1.alloc (.cells #[.float .f64 0, .slice none 0 0] 64)) ⟨w1.heap.size, 0, none⟩ (.float .f64 0) (by simp) (by simp)
      go_wp2
      have hbw1 : b < w1.heap.size := by omega
      clear hst hf0
      go_loopg [4, 6] (L.length + 1) (fun q vi vm wr => ∃ (i : Nat) (st : Nat × List Int), vi = .int .i64 i ∧ vm = .int .i64 st.1 ∧ i ≤ L.length ∧ L.length - i < q ∧ st.1 ≤ 1000 ∧ PhI w1 w1.heap.size L i st wr)
      case atStart =>
        refine ⟨0, (0, []), rfl, rfl, Nat.zero_le _, by omega, by omega, (Below.refl _ _).alloc (Nat.le_refl _) _, by simp, ⟨.slice none 0 0, by rw [alloc_at, if_pos rfl], World.ownsRow_nil _ _ _ _⟩, rfl, Nat.le_refl _⟩
      case round =>
        obtain ⟨i, st, rfl, rfl, hiL, hq, hst1, hI⟩ := hrel
        have hI' := hI
        obtain ⟨hbe, hsw, ⟨v, hv1, hv2⟩, hfin, hfew⟩ := hI'
        have c0 : wr.cell? ⟨w1.heap.size, 0, none⟩ = some (.float .f64 0) := Joins.cell_of_block hv1 0
        by_cases hlt : i < L.length
        · have hBr : BlocksAt wr b L := fun j hj => ⟨(hbe.cell (p := ⟨b, j * 2, none⟩) hbw1).trans (hBl j hj).1, (hbe.cell (p := ⟨b, j * 2 + 1, none⟩) hbw1).trans (hBl j hj).2⟩
          obtain ⟨d0, d1⟩ := hBr i hlt
          have hlt' : (i : Int) < (L.length : Int) := by omega
          obtain ⟨sm, hsm⟩ : ∃ sm, L.getD i 0 = sm := ⟨_, rfl⟩
          rw [hsm] at d1
          clear hv1 hv2 hfin
          go_wp2
          go_quiet (fail)
          go_wp2
          clear d0 d1
          have hI2 := hI.drew nq
          have hBr2 : BlocksAt (wr.drewN nq) b L := hBr
          have c02 : (wr.drewN nq).cell? ⟨w1.heap.size, 0, none⟩ = some (.float .f64 0) := c0
          clear hI hBr c0 hbe hsw
          generalize wr.drewN nq = wm at *
          rename_i Kin hKin
          have main : ∀ (cnt z : Nat) (_ : i + cnt ≤ L.length) (_ : ∀ j, j < cnt → L.getD (i + j) 0 = sm) (_ : i + cnt = L.length ∨ L.getD (i + cnt) 0 ≠ sm) (c21 c22 c23 c24 c25 c26 c27 c28 c29 c30 c31 c32 c33 c34 c35 c36 c37 c38 c39 c40 c41 c42 c43 c44 c45 c46 c47 c48 c49 c50 c51 c52 c53 c54 c55 c56 c57 c58 c59 c60 c61 c62 c63 c64 c65 c66 c67 c68 c69 c70 c71 c72 c73 c74 c75 c76 c77 c78 c79 c80 c81 c82 c83 : Value), Kin ⟨#[(.slice (some ⟨b, 0, none⟩) L.length c), undef, (.slice none 0 0), (.slice none 0 0), (.int .i64 ((i + cnt : Nat))), (.pointer (some ⟨w1.heap.size, 0, none⟩)), (.int .i64 st.1), (.int .i64 sm), (.int .i64 cnt), (.slice (some ⟨b, 0, none⟩) L.length c), v0, (.int .i64 0), (.slice (some ⟨b, 0, none⟩) L.length c), (.int .i64 L.length), (.bool true), (.slice (some ⟨b, 0, none⟩) L.length c), (.int .i64 0), (.pointer (some ⟨b, 0, none⟩)), (.pointer (some ⟨b, 0, none⟩)), (.float .f64 0), (.agg #[.float .f64 0, .slice none 0 0]), c21, c22, c23, c24, c25, c26, c27, c28, c29, c30, c31, c32, c33, c34, c35, c36, c37, c38, c39, c40, c41, c42, c43, c44, c45, c46, c47, c48, c49, c50, c51, c52, c53, c54, c55, c56, c57, c58, c59, c60, c61, c62, c63, c64, c65, c66, c67, c68, c69, c70, c71, c72, c73, c74, c75, c76, c77, c78, c79, c80, c81, c82, c83, u84, u85, u86, u87, undef], []⟩ (wm.drewN z) := by
            intro cnt z hcL hall hexit c21 c22 c23 c24 c25 c26 c27 c28 c29 c30 c31 c32 c33 c34 c35 c36 c37 c38 c39 c40 c41 c42 c43 c44 c45 c46 c47 c48 c49 c50 c51 c52 c53 c54 c55 c56 c57 c58 c59 c60 c61 c62 c63 c64 c65 c66 c67 c68 c69 c70 c71 c72 c73 c74 c75 c76 c77 c78 c79 c80 c81 c82 c83
            obtain ⟨hcp, hmf⟩ := run_at hlt hsm hall hcL hexit L.length st (Nat.le_refl _)
            refine hKin _ _ ?_
            clear hKin hBr2 hall
            obtain ⟨hbe, hsw, ⟨v, hv1, hv2⟩, hfin, hfew⟩ := hI2.drew z
            clear hI2 c02
            generalize wm.drewN z = W at *
            have cv : W.cell? ⟨w1.heap.size, 1, none⟩ = some v := Joins.cell_of_block hv1 1
            have fv := Joins.unfrozen_of_block hv1 1
            have A : Aside (W.heap[w1.heap.size]? = some (.cells #[.float .f64 0, v] 64 (0, 0)) ∧ Below w1.heap.size w1 W ∧ mostFrom L.length (L.drop i) st = mostFrom L.length L (0, [])) := ⟨hv1, hbe, hfin⟩
            clear hv1 hbe hfin
            refine wp_seq_k fun Kc hKc => ?_
            have main2 : ∀ (v' : Value) (st' : Nat × List Int) (wx : World) (_ : st' = if st.1 < cnt then (cnt, []) else st) (_ : wx.heap[w1.heap.size]? = some (.cells #[.float .f64 0, v'] 64 (0, 0))) (_ : wx.ownsRow (w1.heap.size + 1) 3 1 v' st'.2.length (st'.2.map fun x => .int .i64 x)) (_ : Below w1.heap.size w1 wx) (_ : w1.heap.size < wx.heap.size)
                (e21 e22 e23 e24 e25 e26 e27 e28 e29 e30 e31 e32 e33 e34 e35 e36 e37 e38 e39 e40 e41 e42 e43 e44 e45 e46 e47 e48 e49 e50 e51 e52 e53 e54 e55 e56 e57 e58 e59 e60 e61 e62 e63 e64 e65 e66 e67 e68 e69 e70 e71 e72 e73 e74 e75 e76 e77 e78 e79 e80 e81 e82 e83 : Value), Kc ⟨#[(.slice (some ⟨b, 0, none⟩) L.length c), undef, (.slice none 0 0), (.slice none 0 0), (.int .i64 ((i + cnt : Nat))), (.pointer (some ⟨w1.heap.size, 0, none⟩)), (.int .i64 st'.1), (.int .i64 sm), (.int .i64 cnt), (.slice (some ⟨b, 0, none⟩) L.length c), v0, (.int .i64 0), (.slice (some ⟨b, 0, none⟩) L.length c), (.int .i64 L.length), (.bool true), (.slice (some ⟨b, 0, none⟩) L.length c), (.int .i64 0), (.pointer (some ⟨b, 0, none⟩)), (.pointer (some ⟨b, 0, none⟩)), (.float .f64 0), (.agg #[.float .f64 0, .slice none 0 0]), e21, e22, e23, e24, e25, e26, e27, e28, e29, e30, e31, e32, e33, e34, e35, e36, e37, e38, e39, e40, e41, e42, e43, e44, e45, e46, e47, e48, e49, e50, e51, e52, e53, e54, e55, e56, e57, e58, e59, e60, e61, e62, e63, e64, e65, e66, e67, e68, e69, e70, e71, e72, e73, e74, e75, e76, e77, e78, e79, e80, e81, e82, e83, u84, u85, u86, u87, undef], []⟩ wx := by
              intro v' st' wx hst' hx1 hx2 hx3 hx4 e21 e22 e23 e24 e25 e26 e27 e28 e29 e30 e31 e32 e33 e34 e35 e36 e37 e38 e39 e40 e41 e42 e43 e44 e45 e46 e47 e48 e49 e50 e51 e52 e53 e54 e55 e56 e57 e58 e59 e60 e61 e62 e63 e64 e65 e66 e67 e68 e69 e70 e71 e72 e73 e74 e75 e76 e77 e78 e79 e80 e81 e82 e83
              refine hKc _ _ ?_
              clear hKc
              have hms : mostStep st sm cnt = if cnt = st'.1 then (st'.1, st'.2 ++ [sm]) else st' := by
                subst hst'
                unfold mostStep
                by_cases hgt : st.1 < cnt
                · simp [hgt]
                · simp only [if_neg hgt]
              have hfin := A.out.2.2
              have hs1 : st'.1 ≤ 1000 ∧ st'.2.length ≤ i := by
                subst hst'
                split
                · exact ⟨by show cnt ≤ 1000; omega, by simp⟩
                · exact ⟨hst1, hfew⟩
              clear hst' A cv fv hv2
              by_cases heq : cnt = st'.1
              · rw [if_pos heq] at hms
                obtain ⟨i0, hi, hz0, hz1, hz2⟩ := info_parts info3
                have cv : wx.cell? ⟨w1.heap.size, 1, none⟩ = some v' := Joins.cell_of_block hx1 1
                have fv := Joins.unfrozen_of_block hx1 1
                have hcs : (cnt : Int) = (st'.1 : Int) := by omega
                go_wp2_with (at_builtin; refine wpList_append_own _ rfl (.tmp 79) (.tmp 81) 25 rfl (w1.heap.size + 1) 3 i0 (.int .i64 0) 1 8 Ybaz.underlying25 hi hz0 hz1 hz2 rfl (by decide) _ _ _ rfl (hx2.alloc _) ⟨wx.heap.size, 0, none⟩ 1 1 [.int .i64 sm] rfl rfl ?a1 ?a2 ?a3 ?a4 ?a5 ?_)
                case a1 => exact cell_one_new _ _ _
                case a2 => intro u hu; simp at hu; subst hu; rfl
                case a3 => simp [maxLen]; omega
                case a4 => omega
                case a5 => simp; omega
                intro v2 w2 hown2 hgrow _
                have hob : ∀ j, Value.ownBlock v' = some j → w1.heap.size + 1 ≤ j := fun j hj => (hx2.lt j hj).1
                have hB2 : w2.heap[w1.heap.size]? = some (.cells #[.float .f64 0, v'] 64 (0, 0)) := (hgrow.block _ (by simp; omega) (fun e => by have := hob _ e.symm; omega)).trans ((Below.heap_alloc _ _ _ hx4).trans hx1)
                have hsz2 : wx.heap.size ≤ w2.heap.size := by have := hgrow.size; simp at this; omega
                have hbe2 : Below w1.heap.size w1 w2 := (hx3.alloc (by omega) _).grown hgrow (by simp; omega) (fun j e => by have := hob j e; omega)
                have cv2 : w2.cell? ⟨w1.heap.size, 1, none⟩ = some v' := Joins.cell_of_block hB2 1
                have fv2 := Joins.unfrozen_of_block hB2 1
                obtain ⟨g2, cp2, hv2e⟩ := Joins.ownsRow_form hown2 (by omega)
                subst hv2e
                have A3 : Aside (w2.ownsRow (w1.heap.size + 1) 3 1 (.slice (some ⟨g2, 0, none⟩) (st'.2.length + 1) cp2) (st'.2.length + 1) ((st'.2.map fun x => .int .i64 x) ++ [.int .i64 sm]) ∧ w2.heap[w1.heap.size]? = some (.cells #[.float .f64 0, v'] 64 (0, 0)) ∧ Below w1.heap.size w1 w2 ∧ mostStep st sm cnt = (st'.1, st'.2 ++ [sm])) := ⟨hown2, hB2, hbe2, hms⟩
                clear hown2 hB2 hbe2 hms hgrow hob hx1 hx2 hx3 cv fv
                go_wp2
                go_roundg (L.length - i)
                case measure => omega
                case rel =>
                  obtain ⟨r1, r2, r3, r4⟩ := A3.out
                  have hgB : w1.heap.size + 1 ≤ g2 := (r1.lt g2 rfl).1
                  refine ⟨i + cnt, (st'.1, st'.2 ++ [sm]), by rw [show ((i + cnt : Nat) : Int) = (i : Int) + (st'.1 : Int) by omega], rfl, hcL, by omega, hs1.1, r3.setCell (p := ⟨w1.heap.size, 1, none⟩) (Nat.le_refl _) _, by simp [World.setCell]; omega, ⟨.slice (some ⟨g2, 0, none⟩) (st'.2.length + 1) cp2, (Joins.block_setCell (i := 1) r2 _).trans (by simp), ?_⟩, by rw [← r4, hmf, hfin], by simp; omega⟩
                  rw [show (st'.2 ++ [sm]).length = st'.2.length + 1 by simp, List.map_append]
                  rcases r1 with ⟨e0, ⟨e, _⟩ | ⟨g', cp, cur, e, hg, hcur, rest⟩⟩
                  · cases e
                  · cases e
                    exact ⟨by simp, .inr ⟨g2, cp2, cur, rfl, hg, (Below.heap_setCell _ _ _ _ (by show g2 ≠ w1.heap.size; omega)).trans hcur, rest⟩⟩
              · rw [if_neg heq] at hms
                have hne : ((cnt : Int) == (st'.1 : Int)) = false := by simp; omega
                go_wp2
                go_roundg (L.length - i)
                case measure => omega
                case rel =>
                  refine ⟨i + cnt, st', rfl, rfl, hcL, by omega, ?_, hx3, hx4, ⟨v', hx1, hx2⟩, by rw [← hms, hmf, hfin], by omega⟩
                  exact hs1.1
            clear hKc
            by_cases hgt : st.1 < cnt
            · have hgt' : (st.1 : Int) < (cnt : Int) := by omega
              rcases hv2.2 with ⟨e1, e2⟩ | ⟨g, cap, cur, e1, hg, hcur, hrest⟩
              · subst e1
                obtain ⟨t1, t2, t3⟩ := A.out
                have hm3 := main2 (.slice none 0 0) (cnt, []) (W.setCell ⟨w1.heap.size, 1, none⟩ (.slice none 0 0)) (by rw [if_pos hgt]) ((Joins.block_setCell (i := 1) t1 _).trans (by simp)) (World.ownsRow_nil _ _ _ _) (t2.setCell (p := ⟨w1.heap.size, 1, none⟩) (Nat.le_refl _) _) (by simpa [World.setCell] using hsw)
                clear main2 t1 t2 t3
                go_wp2
                exact hm3 _ _ _ _ _ _ _ _ _ _ _ _ _ _ _ _ _ _ _ _ _ _ _ _ _ _ _ _ _ _ _ _ _ _ _ _ _ _ _ _ _ _ _ _ _ _ _ _ _ _ _ _ _ _ _ _ _ _ _ _ _ _ _
              · subst e1
                obtain ⟨t1, t2, t3⟩ := A.out
                have hm3 := main2 (.slice (some ⟨g, 0, none⟩) 0 cap) (cnt, []) (W.setCell ⟨w1.heap.size, 1, none⟩ (.slice (some ⟨g, 0, none⟩) 0 cap)) (by rw [if_pos hgt]) ((Joins.block_setCell (i := 1) t1 _).trans (by simp)) ⟨by simp, .inr ⟨g, cap, cur, rfl, hg, (Below.heap_setCell _ _ _ _ (by show g ≠ w1.heap.size; omega)).trans hcur, Nat.zero_le _, hrest.2.1, hrest.2.2.1, by simp⟩⟩ (t2.setCell (p := ⟨w1.heap.size, 1, none⟩) (Nat.le_refl _) _) (by simpa [World.setCell] using hsw)
                clear main2 t1 t2 t3
                go_wp2
                exact hm3 _ _ _ _ _ _ _ _ _ _ _ _ _ _ _ _ _ _ _ _ _ _ _ _ _ _ _ _ _ _ _ _ _ _ _ _ _ _ _ _ _ _ _ _ _ _ _ _ _ _ _ _ _ _ _ _ _ _ _ _ _ _ _
            · have hgt' : (cnt : Int) ≤ (st.1 : Int) := by omega
              obtain ⟨t1, t2, t3⟩ := A.out
              have hm3 := main2 v st W (by rw [if_neg hgt]) t1 hv2 t2 hsw
              clear main2 t1 t2 t3
              go_wp2
              exact hm3 _ _ _ _ _ _ _ _ _ _ _ _ _ _ _ _ _ _ _ _ _ _ _ _ _ _ _ _ _ _ _ _ _ _ _ _ _ _ _ _ _ _ _ _ _ _ _ _ _ _ _ _ _ _ _ _ _ _ _ _ _ _ _
          clear hKin
          go_loopg [4, 8] (L.length - i + 1) (fun q vi v8 wx => ∃ cnt z : Nat, vi = .int .i64 ((i + cnt : Nat)) ∧ v8 = .int .i64 cnt ∧ i + cnt ≤ L.length ∧ L.length - (i + cnt) < q ∧ wx = wm.drewN z ∧ ∀ j, j < cnt → L.getD (i + j) 0 = sm)
          case atStart => exact ⟨0, 0, rfl, rfl, by omega, by omega, rfl, fun j hj => absurd hj (Nat.not_lt_zero _)⟩
          case round =>
            obtain ⟨cnt, z, rfl, rfl, hcL, hq2, hwx, hall⟩ := hrel
            rw [hwx]
            clear hwx wr
            by_cases hend : i + cnt < L.length
            · obtain ⟨f0, f1⟩ := hBr2 (i + cnt) hend
              have hend' : ((i + cnt : Nat) : Int) < (L.length : Int) := by omega
              by_cases hsame : L.getD (i + cnt) 0 = sm
              · rw [hsame] at f1
                generalize hk : i + cnt = k at *
                clear main
                go_wp2
                go_quiet (fail)
                go_wp2
                go_roundg (L.length - k)
                case measure => omega
                case rel =>
                  refine ⟨cnt + 1, _, ?_, by go_num, by omega, by omega, rfl, fun j hj => ?_⟩
                  · rw [← hk]; go_num
                  · by_cases e : j = cnt
                    · subst e; rw [hk]; exact hsame
                    · exact hall j (by omega)
              · generalize hx : L.getD (i + cnt) 0 = xx at *
                have hne : (xx == sm) = false := by simpa using hsame
                have hm2 := main cnt
                clear main
                generalize hk : i + cnt = k at *
                go_wp2
                go_quiet (fail)
                go_wp2
                rw [World.drewN_drewN]
                exact hm2 _ hcL hall (.inr (by rw [hx]; exact hsame)) _ _ _ _ _ _ _ _ _ _ _ _ _ _ _ _ _ _ _ _ _ _ _ _ _ _ _ _ _ _ _ _ _ _ _ _ _ _ _ _ _ _ _ _ _ _ _ _ _ _ _ _ _ _ _ _ _ _ _ _ _ _ _
            · have hend' : ((i + cnt : Nat) : Int) = (L.length : Int) := by omega
              have hm2 := main cnt
              clear main
              have hk : i + cnt = L.length := by omega
              rw [hk]
              go_wp2
              go_quiet (fail)
              go_wp2
              have hm3 := fun z => hm2 z hcL hall (.inl hk)
              simp only [hk] at hm3
              first | exact hm3 _ _ _ _ _ _ _ _ _ _ _ _ _ _ _ _ _ _ _ _ _ _ _ _ _ _ _ _ _ _ _ _ _ _ _ _ _ _ _ _ _ _ _ _ _ _ _ _ _ _ _ _ _ _ _ _ _ _ _ _ _ _ _ _ | (rw [World.drewN_drewN]; exact hm3 _ _ _ _ _ _ _ _ _ _ _ _ _ _ _ _ _ _ _ _ _ _ _ _ _ _ _ _ _ _ _ _ _ _ _ _ _ _ _ _ _ _ _ _ _ _ _ _ _ _ _ _ _ _ _ _ _ _ _ _ _ _ _ _)
        · obtain rfl : i = L.length := by omega
          have hst : st = mostFrom L.length L (0, []) := by
            rw [← hfin, List.drop_length]
            cases L.length <;> rfl
          have hnlt : (L.length : Int) ≤ (L.length : Int) := Int.le_refl _
          obtain ⟨i0, hi, hz0, hz1, hz2⟩ := info_parts info64
          have c1 : wr.cell? ⟨w1.heap.size, 1, none⟩ = some v := Joins.cell_of_block hv1 1
          go_wp2
          go_quiet (fail)
          go_wp2_with (at_builtin; refine Veil.off ?_)
          unfold Veil
          have hvo : v.oneCell' = true := by rcases hv2.2 with ⟨e, _⟩ | ⟨g, cp, cur, e, _⟩ <;> rw [e] <;> rfl
          have hnew : ((wr.drewN nq).alloc (.cells #[.float .f64 0, v] 64)).heap[wr.heap.size]? = some (.cells #[.float .f64 0, v] 64 (0, 0)) := by rw [alloc_at, if_pos (show wr.heap.size = (wr.drewN nq).heap.size from rfl)]
          refine wpList_append_own _ rfl (.tmp 84) (.tmp 86) 65 rfl (w1.heap.size + 1) 64 i0 (.agg #[.float .f64 0, .slice none 0 0]) 2 32 Ybaz.underlying65 hi hz0 hz1 hz2 rfl (by decide) (.slice none 0 0) 0 [] rfl (World.ownsRow_nil _ _ _ _) ⟨wr.heap.size, 0, none⟩ 1 1 [.float .f64 0, v] rfl rfl ?a1 ?a2 ?a3 ?a4 ?a5 ?_
          case a1 =>
            intro j u hj
            rw [Addr.add_mid, Nat.zero_add, Joins.cell_of_block hnew]
            simpa using hj
          case a2 =>
            intro u hu
            simp at hu
            rcases hu with rfl | rfl
            · rfl
            · exact hvo
          case a3 => simp [maxLen]
          case a4 => omega
          case a5 => simp; omega
          intro v2 w2 hown2 hgrow _
          have hsz2 : wr.heap.size < w2.heap.size := by have := hgrow.size; simp at this; omega
          have hk2 : ∀ j, j < wr.heap.size → w2.heap[j]? = wr.heap[j]? := fun j hj => (hgrow.block j (by simp; omega) (fun e => by simp [Value.ownBlock] at e)).trans (Below.heap_alloc _ _ _ hj)
          have hbe2 : Below w1.heap.size w1 w2 := ((hbe.trans (below_drewN _ _ nq)).alloc (by simp; omega) _).grown hgrow (by simp; omega) (fun j e => by simp [Value.ownBlock] at e)
          have hPh : Phased b (mostOf L) w v2 w2 := by
            have hM : mostOf L = st.2 := by unfold mostOf; rw [← hst]
            refine ⟨hbut.trans (But.of (by omega) hbe2), ?_⟩
            obtain ⟨pb, pc, hv2e⟩ : ∃ pb pc, v2 = .slice (some ⟨pb, 0, none⟩) 1 pc := Joins.ownsRow_form hown2 (by omega)
            subst hv2e
            have hpos2 : 0 < st.2.length := by rw [← hM]; exact List.length_pos_iff.2 hmne
            obtain ⟨g, mc, hve⟩ : ∃ g mc, v = .slice (some ⟨g, 0, none⟩) st.2.length mc := Joins.ownsRow_form hv2 hpos2
            subst hve
            obtain ⟨g', hg1, hg2, hg3, hg4⟩ := IntsAt.of_row hv2 rfl hpos2
            cases hg1
            refine ⟨pb, pc, g, mc, rfl, (hown2.lt pb rfl).2, ?_, ?_, by omega, ?_⟩
            · have := hown2.cellAt 0 (by omega); simpa using this
            · rw [hM]; have := hown2.cellAt 1 (by omega); simpa using this
            · rw [hM]
              exact fun j hj => (World.cell?_of_block (hk2 g hg2)).trans (hg4 j hj)
          clear hown2 hgrow hk2 hbe2 hnew hv1 hv2 hbe
          go_wp2
          go_roundg 1
          case measure => omega
          case rel => exact .inr ⟨rfl, rfl, hPh⟩
    · go_wp2
      go_ret
      exact ⟨_, rfl, hP⟩
end Go.Proofs.YbulkcemcGreat
