/-
  (*index).column (seat b4030aZD).
-/
import Derived.Test.YbulkcelaGreatDoorColR
import Derived.Test.YbulkcelaGreatDoorColS
import Derived.Defers
namespace Go.Proofs.YbulkcelaGreatDoor
open Go.RowKit Go.MapKept Go.Lib Go.Shelf Go.Maps

theorem Ybaz.info21 : (Ybaz.prog.info? 21).map (fun i => (i.zero, i.size, i.bytes)) = some (some (.int .i32 0), 1, 4) := by kernel_rfl
theorem Ybaz.info44 : (Ybaz.prog.info? 44).map (fun i => (i.zero, i.size, i.bytes)) = some (some (.slice none 0 0), 1, 24) := by kernel_rfl

theorem make152 (w : World) (n : Nat) (hn : n ≤ 1000) : ∃ zc : Array Value, zc.size = n ∧ (Instr.makeSlice 152 (.int .i64 n) (.int .i64 n)).run Ybaz.prog w = .ok (.slice (some ⟨w.heap.size, 0, none⟩) n n) (w.alloc (.cells zc 21)) := by
  obtain ⟨i0, hi, hz0, hz1, hz2⟩ := info_parts Ybaz.info21
  have hmk := run_make (P := Ybaz.prog) w 152 21 i0 _ Ybaz.underlying152 hi hz0 .i64 .i64 n n (by omega) (Int.le_refl _) (by rw [hz2]; omega) (by omega)
  rw [hz1, Nat.mul_one] at hmk
  simp only [Int.toNat_natCast] at hmk
  exact ⟨_, size_madeCells _ _, hmk⟩

set_option maxRecDepth 100000 in
theorem zero21 (W : World) : (zeroValue 21).run Ybaz.prog W = .ok (.int .i32 0) W := by rfl
set_option maxRecDepth 100000 in
theorem zero150 (W : World) : (zeroValue 150).run Ybaz.prog W = .ok (.pointer none) W := by rfl

/-- A column, made. -/
def ColAt (lo : Nat) (w : World) (cb : Nat) (ks : List Int) : Prop := ∃ nb vb hb hc hl, ColJ lo w w cb nb vb ks.length hb hc (numEnts ks (posK ks ks.length)) hl ∧ hl.length = (posK ks ks.length).length + 1 ∧ HRows lo w hl (posK ks ks.length)

/-- What column leaves. -/
structure ColEnd (w : World) (mb cb : Nat) (ks : List Int) (w' : World) : Prop where
  os : w'.os = w.os
  tape : w'.tape = w.tape
  output : w'.output = w.output
  size : w.heap.size ≤ w'.heap.size
  block : ∀ k, k < w.heap.size → k ≠ mb → w'.heap[k]? = w.heap[k]?
  cols : MapL w' mb [(aS, .pointer (some ⟨cb, 0, none⟩))]
  col : ColAt w.heap.size w' cb ks

set_option linter.unusedSimpArgs false in
set_option maxRecDepth 100000 in
set_option maxHeartbeats 1000000 in
theorem col_new (xb mb vvb vc ib : Nat) (ks : List Int) (vs : Nat → Value) (w : World) (hx : w.heap[xb]? = some (.cells #[.slice (some ⟨vvb, 0, none⟩) ks.length vc, .int .i32 0, .int .u32 0, .map (some mb)] 148 (0, 0))) (hmb : MapL w mb []) (hK : ks.length ≤ 300) (hnd : ks.Nodup) (hr : ∀ x ∈ ks, -1 ≤ x ∧ x ≤ 2)
    (hvs : ∀ (j : Nat) (k : Int), ks[j]? = some k → w.cell? ⟨vvb, j, none⟩ = some (vs j) ∧ VisAt w ib (vs j) k) (hvl : vvb < w.heap.size) (hvx : vvb ≠ xb) :
    Calls Ybaz.prog 70 #[.pointer (some ⟨xb, 0, none⟩), .string aS] w fun e w' => ∃ cb, e = .returned (.pointer (some ⟨cb, 0, none⟩)) ∧ ColEnd w mb cb ks w' := by
  have hA : Aside (ks.Nodup ∧ (∀ x ∈ ks, -1 ≤ x ∧ x ≤ 2) ∧ (∀ (j : Nat) (k : Int), ks[j]? = some k → w.cell? ⟨vvb, j, none⟩ = some (vs j) ∧ VisAt w ib (vs j) k) ∧ MapL w mb [] ∧ w.heap[xb]? = some (.cells #[.slice (some ⟨vvb, 0, none⟩) ks.length vc, .int .i32 0, .int .u32 0, .map (some mb)] 148 (0, 0))) := ⟨hnd, hr, hvs, hmb, hx⟩
  have hlk := lock90 ⟨xb, 1, none⟩ w (Joins.cell_of_block hx 1) (Joins.unfrozen_of_block hx 1)
  obtain ⟨w1, hw1⟩ : ∃ w1, w.setCell ⟨xb, 1, none⟩ (.int .i32 1) = w1 := ⟨_, rfl⟩
  have hx1 : w1.heap[xb]? = some (.cells #[.slice (some ⟨vvb, 0, none⟩) ks.length vc, .int .i32 1, .int .u32 0, .map (some mb)] 148 (0, 0)) := by
    rw [← hw1]
    have := Joins.block_setCell (i := 1) hx (.int .i32 1)
    simpa using this
  have hk1 : ∀ k, k ≠ xb → w1.heap[k]? = w.heap[k]? := fun k hne => by rw [← hw1]; exact Below.heap_setCell _ _ _ _ hne
  have hs1 : w1.heap.size = w.heap.size := by rw [← hw1]; simp [World.setCell]
  have hmx : mb ≠ xb := fun e => by subst e; exact map_no_cells hmb _ _ _ hx
  have hmb1 : MapL w1 mb [] := hmb.block (hk1 mb hmx)
  have hlook := (hmb1.look_none (t := 140) (e := 150) Ybaz.underlying140 (z := .pointer none) (zero150 w1) aS_size (fun v hv => by cases hv)).1
  have x0 : w1.cell? ⟨xb, 0, none⟩ = some (.slice (some ⟨vvb, 0, none⟩) ks.length vc) := Joins.cell_of_block hx1 0
  have x3 : w1.cell? ⟨xb, 3, none⟩ = some (.map (some mb)) := Joins.cell_of_block hx1 3
  have hxl : xb < w1.heap.size := (Array.getElem?_eq_some_iff.1 hx1).1
  obtain ⟨zc, hzs, hmk⟩ := make152 (w1.alloc (.map #[] 0)) ks.length (by omega)
  have hmm := @run_makeMap Ybaz.prog
  have hA1 : Aside (w1.heap[xb]? = some (.cells #[.slice (some ⟨vvb, 0, none⟩) ks.length vc, .int .i32 1, .int .u32 0, .map (some mb)] 148 (0, 0)) ∧ (∀ k, k ≠ xb → w1.heap[k]? = w.heap[k]?) ∧ w1.heap.size = w.heap.size ∧ w.setCell ⟨xb, 1, none⟩ (.int .i32 1) = w1 ∧ mb ≠ xb ∧ MapL w1 mb []) := ⟨hx1, hk1, hs1, hw1, hmx, hmb1⟩
  clear hx hmb hnd hr hvs hx1 hk1 hs1 hmb1
  rw [hw1] at hlk
  clear hw1
  have hxl1 : xb < w1.heap.size + 1 := by omega
  have hxl2 : xb < w1.heap.size + 1 + 1 := by omega
  have hxl3 : xb < w1.heap.size + 1 + 1 + 1 := by omega
  go_enter_defers Ybaz.func70, Ybaz.ntmps70
  go_wp2_with (first | (go_at_call 90; refine hlk.mono ?_; rintro e w2 ⟨rfl, hw2⟩; obtain rfl := hw2.symm) | fail)
  clear hlk hmk hmm hlook x0 hxl1 hxl2 hxl3
  rename_i K1 hK1
  have hK1' : Aside (∀ (a : Act) (w : World), _ → K1 a w) := hK1
  clear hK1
  obtain ⟨lo, hlo⟩ : ∃ lo, w1.heap.size = lo := ⟨_, rfl⟩
  obtain ⟨wS, hwS⟩ : ∃ wS, (((w1.alloc (.map #[] 0)).alloc (.cells zc 21)).alloc (.cells #[.slice none 0 0] 44)).alloc (.cells #[.map (some w1.heap.size), .slice (some ⟨w1.heap.size + 1, 0, none⟩) ks.length ks.length, .slice (some ⟨w1.heap.size + 1 + 1, 0, none⟩) 1 1] 158) = wS := ⟨_, rfl⟩
  have hC0 : ColJ lo w1 wS (lo + 1 + 1 + 1) lo (lo + 1) ks.length (lo + 1 + 1) 1 (numEnts ks (posK ks 0)) [.slice none 0 0] := by
    rw [← hwS, ← hlo]
    have hb1 : Below w1.heap.size w1 (w1.alloc (.map #[] 0)) := (Below.refl _ _).alloc (Nat.le_refl _) _
    have e1 : (w1.alloc (.map #[] 0)).heap.size = w1.heap.size + 1 := by simp
    have e2 : ((w1.alloc (.map #[] 0)).alloc (.cells zc 21)).heap.size = w1.heap.size + 1 + 1 := by simp
    have e3 : (((w1.alloc (.map #[] 0)).alloc (.cells zc 21)).alloc (.cells #[.slice none 0 0] 44)).heap.size = w1.heap.size + 1 + 1 + 1 := by simp
    refine ⟨((hb1.alloc (by omega) _).alloc (by omega) _).alloc (by omega) _, by omega, Nat.le_refl _, by omega, ?_, ⟨zc, ?_, hzs⟩, ?_, ?_⟩
    · refine (MapL.made w1).block ?_
      rw [alloc_at, if_neg (by omega), alloc_at, if_neg (by omega), alloc_at, if_neg (by omega)]
    · rw [alloc_at, if_neg (by omega), alloc_at, if_neg (by omega), alloc_at, if_pos (by omega)]
    · rw [alloc_at, if_pos (by omega)]
      rfl
    · refine ⟨by simp, .inr ⟨w1.heap.size + 1 + 1, 1, #[.slice none 0 0], rfl, by omega, ?_, by simp, by unfold maxLen; omega, by simp, by simp⟩⟩
      rw [alloc_at, if_neg (by omega), alloc_at, if_pos (by omega)]
  have hAC : Aside (ColJ lo w1 wS (lo + 1 + 1 + 1) lo (lo + 1) ks.length (lo + 1 + 1) 1 (numEnts ks (posK ks 0)) [.slice none 0 0]) := hC0
  have hAlo : Aside (w1.heap.size = lo) := hlo
  rw [hwS, hlo]
  clear hC0 hwS hlo
  obtain ⟨cb, hcb⟩ : ∃ cb, lo + 1 + 1 + 1 = cb := ⟨_, rfl⟩
  rw [hcb] at hAC ⊢
  clear hcb
  go_loopg [43] (ks.length + 1) (fun q v43 wr => ∃ (i hb hc : Nat) (hl : List Value), v43 = .int .i64 i ∧ i ≤ ks.length ∧ ks.length - i < q ∧ ColJ lo w1 wr cb lo (lo + 1) ks.length hb hc (numEnts ks (posK ks i)) hl ∧ hl.length = (posK ks i).length + 1 ∧ HRows lo wr hl (posK ks i))
  case atStart => exact ⟨0, _, _, _, rfl, Nat.zero_le _, by omega, hAC.out, rfl, fun t j hj => by simp [posK] at hj⟩
  case round =>
    obtain ⟨i, hb, hc, hl, rfl, hiK, hq, hJ, hll, hH⟩ := hrel
    by_cases hlt : i < ks.length
    · have hk : ks[i]? = some (ks.getD i 0) := by simp [List.getD, hlt]
      have hlo' := hAlo.out
      have hws := hA1.out.2.2.1
      obtain ⟨hv0, hvis0⟩ := hA.out.2.2.1 i _ hk
      have x0' : wr.cell? ⟨xb, 0, none⟩ = wr.cell? ⟨xb, 0, none⟩ := rfl
      have hwk : ∀ k, k < lo → k ≠ xb → wr.heap[k]? = w.heap[k]? := fun k h1 h2 => (hJ.below.block k h1).trans (hA1.out.2.1 k h2)
      have hvc : wr.cell? ⟨vvb, i, none⟩ = some (vs i) := (World.cell?_of_block (hwk vvb (by omega) hvx)).trans hv0
      have hvis : VisAt wr ib (vs i) (ks.getD i 0) := hvis0.kept fun r l _ hM => hM.block (hwk r (by have := hM.lt; omega) (fun e => by subst e; exact map_no_cells hM _ _ _ hA.out.2.2.2.2))
      have hlt' : (i : Int) < (ks.length : Int) := by omega
      have hAJ : Aside (ColJ lo w1 wr cb lo (lo + 1) ks.length hb hc (numEnts ks (posK ks i)) hl ∧ hl.length = (posK ks i).length + 1 ∧ HRows lo wr hl (posK ks i)) := ⟨hJ, hll, hH⟩
      clear hv0 hvis0 x0'
      rcases hvis with ⟨hk1, hv⟩ | ⟨m, hm3, hkm, r, hvr, hrib, hMr⟩
      · have hlkv : (Instr.lookup 49 (vs i) (.string aS) false).run Ybaz.prog wr = .ok (.string ⟨#[]⟩) wr := by
          rcases hv with hv | ⟨r, hv, _, hM⟩
          · rw [hv]; exact look_nil 49 9 wr aS (.string ⟨#[]⟩) Ybaz.underlying49 (zero9 wr) aS_size
          · rw [hv]; exact (hM.look_none (t := 49) (e := 9) Ybaz.underlying49 (z := .string ⟨#[]⟩) (zero9 wr) aS_size (fun v hv => by cases hv)).1
        have hnext : posK ks (i + 1) = posK ks i := posK_succ_no ks i (by omega)
        have hvm : ∃ mp, vs i = .map mp := by rcases hv with hv | ⟨r, hv, _⟩ <;> exact ⟨_, hv⟩
        obtain ⟨mp, hvm⟩ := hvm
        rw [hvm] at hlkv hvc
        clear hJ hll hH hv hwk
        go_wp2
        go_roundg (ks.length - i)
        case measure => omega
        case rel => exact ⟨i + 1, hb, hc, hl, by go_num, by omega, by omega, by rw [hnext]; exact hAJ.out.1, by rw [hnext]; exact hAJ.out.2.1, by rw [hnext]; exact hAJ.out.2.2⟩
      · have hlkv : (Instr.lookup 49 (.map (some r)) (.string aS) false).run Ybaz.prog wr = .ok (.string (valS m)) wr := (hMr.look_some (t := 49) (e := 9) Ybaz.underlying49 (by simp)).1
        rw [hvr] at hvc
        have hnext : posK ks (i + 1) = posK ks i ++ [i] := posK_succ_yes ks i (by omega)
        have hnot : ∀ v, (valS m, v) ∉ numEnts ks (posK ks i) := fun v hv => by
          obtain ⟨t, ht, e⟩ := List.mem_map.1 hv
          have ht' := List.mem_range.1 ht
          injection e with e1 _
          have hpm : (posK ks i).getD t 0 ∈ posK ks i := by simp [List.getD, ht']
          obtain ⟨hp1, hp2⟩ := posK_mem hpm
          generalize (posK ks i).getD t 0 = p at *
          have hpl : p < ks.length := by omega
          have hpr := hA.out.2.1 (ks.getD p 0) (by simp [List.getD, hpl])
          have he := valS_inj (by omega) hm3 e1
          have hpi : ks.getD p 0 = ks.getD i 0 := by omega
          have h1 : ks[p]? = ks[i]? := by
            have a1 : ks[p]? = some (ks.getD p 0) := by simp [List.getD, hpl]
            rw [a1, hk, hpi]
          have := (List.getElem?_inj hpl hA.out.1).1 h1
          omega
        have hlkn := (hJ.num.look_none (t := 156) (e := 21) Ybaz.underlying156 (z := .int .i32 0) (zero21 wr) (valS_size m) hnot).2
        have hve := valS_some m
        obtain ⟨w2, hup, hM2, hg2, hs2⟩ := hJ.num.store_new (t := 156) (e := 21) Ybaz.underlying156 (s := valS m) (valS_size m) hnot (.int .i32 hl.length)
        have hJ2 : ColJ lo w1 w2 cb lo (lo + 1) ks.length hb hc (numEnts ks (posK ks i ++ [i])) hl := by
          refine hJ.number ?_ hg2
          rw [numEnts_snoc, ← hll, show (ks.getD i 0).toNat = m by omega]
          exact hM2
        have hH2 : HRows lo w2 hl (posK ks i) := hH.kept fun g c xs hr => row_map hr hJ.num hg2
        have c0 : wr.cell? ⟨cb, 0, none⟩ = some (.map (some lo)) := Joins.cell_of_block hJ.box 0
        have c2 : wr.cell? ⟨cb, 2, none⟩ = some (.slice (some ⟨hb, 0, none⟩) hl.length hc) := Joins.cell_of_block hJ.box 2
        have c22 : w2.cell? ⟨cb, 2, none⟩ = some (.slice (some ⟨hb, 0, none⟩) hl.length hc) := Joins.cell_of_block hJ2.box 2
        have hpl := posK_le ks i
        have hl301 : hl.length ≤ 301 := by omega
        have hAJ2 : Aside (ColJ lo w1 w2 cb lo (lo + 1) ks.length hb hc (numEnts ks (posK ks i ++ [i])) hl ∧ HRows lo w2 hl (posK ks i)) := ⟨hJ2, hH2⟩
        have hlo2 : lo ≤ w2.heap.size := by have h9 := hJ2.num.lt; omega
        have hrA : (w2.alloc (.cells #[.slice none 0 0] 44)).ownsRow lo 44 1 (.slice (some ⟨hb, 0, none⟩) hl.length hc) hl.length hl := hJ2.row.alloc _
        obtain ⟨i0, hi, hz0, hz1, hz2⟩ := info_parts Ybaz.info44
        have Hi : Aside (Ybaz.prog.info? 44 = some i0 ∧ i0.zero = some (.slice none 0 0) ∧ i0.size = 1 ∧ i0.bytes = 24) := ⟨hi, hz0, hz1, hz2⟩
        have hAn : Aside (posK ks (i + 1) = posK ks i ++ [i] ∧ hl.length = (posK ks i).length + 1) := ⟨hnext, hll⟩
        clear hi hz0 hz1 hz2 hJ hll hH hwk hM2 hg2 hs2 hJ2 hH2 hnot hnext hMr hpl hk hlt
        obtain ⟨L, hL⟩ : ∃ L, hl.length = L := ⟨_, rfl⟩
        rw [hL] at hup c2 c22 hl301 hrA
        have hAL : Aside (hl.length = L) := hL
        clear hL
        go_wp2_with (at_builtin; refine Veil.off ?_)
        unfold Veil
        refine wpList_append_own _ rfl (.tmp 80) (.tmp 81) 120 rfl lo 44 i0 (.slice none 0 0) 1 24 Ybaz.underlying120 Hi.out.1 Hi.out.2.1 Hi.out.2.2.1 Hi.out.2.2.2 rfl (by decide) (.slice (some ⟨hb, 0, none⟩) L hc) L _ rfl hrA ⟨w2.heap.size, 0, none⟩ 1 1 [.slice none 0 0] rfl rfl ?a1 ?a2 ?a3 ?a4 ?a5 ?_
        case a1 => exact cell_one_new _ _ _
        case a2 => intro u hu; simp at hu; subst hu; rfl
        case a3 => simp [maxLen]; omega
        case a4 => omega
        case a5 => simp; omega
        intro v5 w5 hown5 hgrow5 _
        rw [← hAL.out] at hown5 hgrow5
        obtain ⟨hb2, hc2, hv5, q2, qf, hJ3⟩ := hAJ2.out.1.grow ((Below.refl _ _).alloc (Nat.le_refl _) _) hgrow5 hown5
        subst hv5
        rw [hAL.out] at q2 hJ3
        have hba : Below w2.heap.size w2 (w2.alloc (.cells #[.slice none 0 0] 44)) := (Below.refl _ _).alloc (Nat.le_refl _) _
        obtain ⟨w6, hw6⟩ : ∃ w6, w5.setCell ⟨cb, 2, none⟩ (.slice (some ⟨hb2, 0, none⟩) (L + 1) hc2) = w6 := ⟨_, rfl⟩
        rw [hw6] at hJ3
        have hbox5 : ∃ cs, w5.heap[cb]? = some (.cells cs 158 (0, 0)) := by
          have h1 := (hAJ2.out.1.later hba)
          refine ⟨_, (hgrow5.block cb (Array.getElem?_eq_some_iff.1 h1.box).1 (fun e => ?_)).trans h1.box⟩
          obtain ⟨_, cur, hc9⟩ := own_block h1.row e.symm
          rw [h1.box] at hc9
          cases hc9
        obtain ⟨cs5, hbox5⟩ := hbox5
        have hH6 : HRows lo w6 hl (posK ks i) := hAJ2.out.2.kept fun g c xs hr => by
          have h1 := row_other (row_below hr hba) (hAJ2.out.1.later hba).row (by decide) hgrow5
          rw [← hw6]
          exact row_one h1 hbox5 (by decide) (fun k _ hne => Below.heap_setCell _ _ _ _ hne)
        have c61 : w6.cell? ⟨cb, 1, none⟩ = some (.slice (some ⟨lo + 1, 0, none⟩) ks.length ks.length) := Joins.cell_of_block hJ3.box 1
        obtain ⟨cur, hval, hvs⟩ := hJ3.val
        have hvi : w6.cell? ⟨lo + 1, i, none⟩ = some cur[i]! := by
          rw [Joins.cell_of_block hval]
          simp [show i < cur.size by omega]
        have hvf : w6.frozen? ⟨lo + 1, i, none⟩ = false := Joins.unfrozen_of_block hval i
        obtain ⟨w7, hw7⟩ : ∃ w7, w6.setCell ⟨lo + 1, i, none⟩ (.int .i32 (L : Nat)) = w7 := ⟨_, rfl⟩
        have hJ7 := hJ3.value i (.int .i32 (L : Nat))
        rw [hw7] at hJ7
        have hH7 : HRows lo w7 hl (posK ks i) := hH6.kept fun g c xs hr => by
          rw [← hw7]
          exact row_one hr hval (by decide) (fun k _ hne => Below.heap_setCell _ _ _ _ hne)
        have c72 : w7.cell? ⟨cb, 2, none⟩ = some (.slice (some ⟨hb2, 0, none⟩) (L + 1) hc2) := by
          have := Joins.cell_of_block hJ7.box 2
          simpa [hAL.out] using this
        have hcell7 : w7.cell? ⟨hb2, L, none⟩ = some (.slice none 0 0) := by
          have := hJ7.row.cellAt L (by simp [hAL.out])
          rw [this, List.getElem?_append_right (by rw [hAL.out]; exact Nat.le_refl _), hAL.out]
          simp
        have hfz7 : w7.frozen? ⟨hb2, L, none⟩ = false := by
          rcases hJ7.row.2 with ⟨e, _⟩ | ⟨g, cap, cu, e, _, hh, _⟩
          · cases e
          · injection e with e1 _ _
            injection e1 with e1
            injection e1 with e1 _ _
            subst e1
            exact Joins.unfrozen_of_block hh L
        have hlo7 : lo ≤ w7.heap.size := by have h9 := hJ7.num.lt; omega
        have hA7 : Aside (ColJ lo w1 w7 cb lo (lo + 1) ks.length hb2 hc2 (numEnts ks (posK ks i ++ [i])) (hl ++ [.slice none 0 0]) ∧ HRows lo w7 hl (posK ks i)) := ⟨hJ7, hH7⟩
        clear hJ3 hJ7 hH6 hH7 hbox5 hba hgrow5 hown5 hval hrA hup hlkv hlkn hvc c0 c2 c22
        generalize cur[i]! = old at hvi
        rw [hAL.out]
        go_wp2
        have hF : ∀ (w8 : World) (g c9 : Nat), w8.ownsRow lo 3 1 (.slice (some ⟨g, 0, none⟩) 1 c9) 1 [.int .i64 (i : Nat)] → Below w7.heap.size w7 w8 → w7.heap.size ≤ g → ColJ lo w1 (w8.setCell ⟨hb2, L, none⟩ (.slice (some ⟨g, 0, none⟩) 1 c9)) cb lo (lo + 1) ks.length hb2 hc2 (numEnts ks (posK ks (i + 1))) ((hl ++ [Value.slice none 0 0]).set L (.slice (some ⟨g, 0, none⟩) 1 c9)) ∧ ((hl ++ [Value.slice none 0 0]).set L (.slice (some ⟨g, 0, none⟩) 1 c9)).length = (posK ks (i + 1)).length + 1 ∧ HRows lo (w8.setCell ⟨hb2, L, none⟩ (.slice (some ⟨g, 0, none⟩) 1 c9)) ((hl ++ [Value.slice none 0 0]).set L (.slice (some ⟨g, 0, none⟩) 1 c9)) (posK ks (i + 1)) := fun w8 g c9 hrow hb8 hg8 => by
          obtain ⟨hn1, hn2⟩ := hAn.out
          have hLp : L = (posK ks i).length + 1 := by have := hAL.out; omega
          rw [hn1]
          have hJ8 := hA7.out.1.holder hb8 L (.slice (some ⟨g, 0, none⟩) 1 c9)
          have hrow44 : ∃ cu, w8.heap[hb2]? = some (.cells cu 44 (0, 0)) := by
            rcases (hA7.out.1.later hb8).row.2 with ⟨e, _⟩ | ⟨g', cap, cu, e, _, hh, _⟩
            · cases e
            · injection e with e1 _ _
              injection e1 with e1
              injection e1 with e1 _ _
              subst e1
              exact ⟨cu, hh⟩
          obtain ⟨cu, hrow44⟩ := hrow44
          have hk8 : ∀ k, k < w8.heap.size → k ≠ hb2 → (w8.setCell ⟨hb2, L, none⟩ (.slice (some ⟨g, 0, none⟩) 1 c9)).heap[k]? = w8.heap[k]? := fun k _ hne => Below.heap_setCell _ _ _ _ hne
          refine ⟨hJ8, by simp; omega, fun t j hj => ?_⟩
          by_cases ht : t < (posK ks i).length
          · rw [List.getElem?_append_left ht] at hj
            obtain ⟨g', c', h1, h2⟩ := hA7.out.2 t j hj
            refine ⟨g', c', ?_, row_one (row_below h2 hb8) hrow44 (by decide) hk8⟩
            rw [List.getElem?_set_ne (by omega), List.getElem?_append_left (by omega)]
            exact h1
          · rw [List.getElem?_append_right (by omega)] at hj
            have : t - (posK ks i).length = 0 ∧ i = j := by
              cases hq : t - (posK ks i).length with
              | zero => rw [hq] at hj; simpa using hj
              | succ n => rw [hq] at hj; simp at hj
            refine ⟨g, c9, ?_, ?_⟩
            · rw [show t + 1 = L by omega, List.getElem?_set_self (by simp; omega)]
            · rw [← this.2]
              exact row_one hrow hrow44 (by decide) hk8
        have hAF : Aside (∀ (w8 : World) (g c9 : Nat), w8.ownsRow lo 3 1 (.slice (some ⟨g, 0, none⟩) 1 c9) 1 [.int .i64 (i : Nat)] → Below w7.heap.size w7 w8 → w7.heap.size ≤ g → ColJ lo w1 (w8.setCell ⟨hb2, L, none⟩ (.slice (some ⟨g, 0, none⟩) 1 c9)) cb lo (lo + 1) ks.length hb2 hc2 (numEnts ks (posK ks (i + 1))) ((hl ++ [Value.slice none 0 0]).set L (.slice (some ⟨g, 0, none⟩) 1 c9)) ∧ ((hl ++ [Value.slice none 0 0]).set L (.slice (some ⟨g, 0, none⟩) 1 c9)).length = (posK ks (i + 1)).length + 1 ∧ HRows lo (w8.setCell ⟨hb2, L, none⟩ (.slice (some ⟨g, 0, none⟩) 1 c9)) ((hl ++ [Value.slice none 0 0]).set L (.slice (some ⟨g, 0, none⟩) 1 c9)) (posK ks (i + 1))) := hF
        clear hF
        refine col_r18 cb hb2 (L + 1) hc2 i L lo w7 hlo7 c72 (by omega) hcell7 hfz7 _ _ _ _ _ _ _ _ _ _ _ _ _ _ _ _ _ _ _ _ _ _ _ _ _ _ _ _ _ _ _ _ _ _ _ _ _ _ _ _ _ _ _ _ _ _ _ _ _ _ _ _ _ _ _ _ _ _ _ _ _ _ _ _ _ _ _ _ _ _ _ _ _ _ _ _ _ _ _ _ _ _ _ _ _ _ _ _ _ _ _ _ _ _ _ _ _ _ _ _ _ _ _ _ _ _ _ _ _ _ _ _ _ _ _ ?_
        intro w8 g c9
        intros
        rename_i hr8 hg8 hb8
        have h8 := hAF.out w8 g c9 hr8 hb8 hg8
        have hA8 : Aside (ColJ lo w1 (w8.setCell ⟨hb2, L, none⟩ (.slice (some ⟨g, 0, none⟩) 1 c9)) cb lo (lo + 1) ks.length hb2 hc2 (numEnts ks (posK ks (i + 1))) ((hl ++ [Value.slice none 0 0]).set L (.slice (some ⟨g, 0, none⟩) 1 c9)) ∧ ((hl ++ [Value.slice none 0 0]).set L (.slice (some ⟨g, 0, none⟩) 1 c9)).length = (posK ks (i + 1)).length + 1 ∧ HRows lo (w8.setCell ⟨hb2, L, none⟩ (.slice (some ⟨g, 0, none⟩) 1 c9)) ((hl ++ [Value.slice none 0 0]).set L (.slice (some ⟨g, 0, none⟩) 1 c9)) (posK ks (i + 1))) := h8
        clear h8 hr8 hg8 hb8 hcell7 hfz7 c72 c61 hvi hvf
        go_wp2
        go_roundg (ks.length - i)
        case measure => omega
        case rel => exact ⟨i + 1, hb2, hc2, _, by go_num, by omega, by omega, hA8.out⟩
    · obtain rfl : i = ks.length := by omega
      have hJx := hJ.below
      have x3' : wr.cell? ⟨xb, 3, none⟩ = some (.map (some mb)) := (hJ.below.cell (p := ⟨xb, 3, none⟩) (by show xb < lo; have := hAlo.out; omega)).trans x3
      have hmbl : mb < lo := by have h9 := hA1.out.2.2.2.2.2.lt; have := hAlo.out; omega
      have hmbr : MapL wr mb [] := hA1.out.2.2.2.2.2.block (hJ.below.block mb hmbl)
      obtain ⟨w3, hup, hM3, hg3, hs3⟩ := hmbr.store_new (t := 140) (e := 150) Ybaz.underlying140 (s := aS) aS_size (fun v hv => by cases hv) (.pointer (some ⟨cb, 0, none⟩))
      have hAe : Aside (ColJ lo w1 wr cb lo (lo + 1) ks.length hb hc (numEnts ks (posK ks ks.length)) hl ∧ hl.length = (posK ks ks.length).length + 1 ∧ HRows lo wr hl (posK ks ks.length) ∧ MapL w3 mb ([] ++ [(aS, .pointer (some ⟨cb, 0, none⟩))]) ∧ wr.grownBy w3 (some mb) ∧ w3.heap.size = wr.heap.size ∧ MapL wr mb []) := ⟨hJ, hll, hH, hM3, hg3, hs3, hmbr⟩
      clear hJ hll hH hM3 hg3 hs3 hmbr hJx
      go_wp2
      refine hK1'.out _ _ ?_
      clear hK1'
      go_wp2
      have hA9 := hA1.out
      have hxl9 : xb < lo := by have := hAlo.out; omega
      have hx3 : w3.heap[xb]? = some (.cells #[.slice (some ⟨vvb, 0, none⟩) ks.length vc, .int .i32 1, .int .u32 0, .map (some mb)] 148 (0, 0)) := by
        have hwr : xb < wr.heap.size := cell_lt x3'
        rw [hAe.out.2.2.2.2.1.block xb hwr (fun e => hA9.2.2.2.2.1 (by injection e with e; exact e.symm)), hAe.out.1.below.block xb hxl9]
        exact hA9.1
      refine leaves_cons (f := 91) (args := #[.pointer (some ⟨xb, 1, none⟩)]) (by simp) (by simp [go_sem]) ?_
      refine (unlock91 ⟨xb, 1, none⟩ .returning w3 (Joins.cell_of_block hx3 1) (Joins.unfrozen_of_block hx3 1)).mono ?_
      rintro e u' w4 ⟨rfl, rfl, rfl⟩
      refine ⟨_, results_tmp rfl _ _ _, cb, rfl, ?_⟩
      obtain ⟨hJ, hll, hH, hM3, hg3, hs3, hmbr⟩ := hAe.out
      have hsz := hJ.below.size
      have hlo' := hAlo.out
      have hW : ∀ k, k ≠ xb → k ≠ mb → k < wr.heap.size → (w3.setCell ⟨xb, 1, none⟩ (.int .i32 0)).heap[k]? = wr.heap[k]? := fun k h1 h2 h3 => (Below.heap_setCell _ _ _ _ h1).trans (hg3.block k h3 (fun e => h2 (by injection e)))
      have hws := hA9.2.2.1
      refine ⟨hg3.os.trans (hJ.below.os.trans (by rw [← hA9.2.2.2.1]; rfl)), hg3.tape.trans (hJ.below.tape.trans (by rw [← hA9.2.2.2.1]; rfl)), hg3.output.trans (hJ.below.output.trans (by rw [← hA9.2.2.2.1]; rfl)), ?_, fun k hk hne => ?_, ?_, ?_⟩
      · show _ ≤ (w3.setCell _ _).heap.size
        simp [World.setCell]; omega
      · by_cases hkx : k = xb
        · subst hkx
          rw [hA.out.2.2.2.2]
          have := Joins.block_setCell (i := 1) hx3 (.int .i32 0)
          simpa using this
        · rw [hW k hkx hne (by omega), hJ.below.block k (by omega), hA9.2.1 k hkx]
      · exact map_one hM3 hx3 (fun k _ hne => Below.heap_setCell _ _ _ _ hne)
      · rw [← hws, hlo']
        have hhi : ∀ k, lo ≤ k → k < wr.heap.size → (w3.setCell ⟨xb, 1, none⟩ (.int .i32 0)).heap[k]? = wr.heap[k]? := fun k h1 h2 => hW k (by omega) (by omega) h2
        exact ⟨lo, lo + 1, hb, hc, hl, hJ.high hhi, hll, hH.kept fun g c xs hr => row_high hr hhi⟩

/-- Nothing has turned. -/
structure Same (w w' : World) : Prop where
  os : w'.os = w.os
  tape : w'.tape = w.tape
  output : w'.output = w.output
  size : w'.heap.size = w.heap.size
  block : ∀ k : Nat, w'.heap[k]? = w.heap[k]?

set_option linter.unusedSimpArgs false in
set_option maxRecDepth 100000 in
set_option maxHeartbeats 1000000 in
theorem col_old (xb mb vc cb K : Nat) (vp : Option Addr) (w : World) (hx : w.heap[xb]? = some (.cells #[.slice vp K vc, .int .i32 0, .int .u32 0, .map (some mb)] 148 (0, 0))) (hmb : MapL w mb [(aS, .pointer (some ⟨cb, 0, none⟩))]) :
    Calls Ybaz.prog 70 #[.pointer (some ⟨xb, 0, none⟩), .string aS] w fun e w' => e = .returned (.pointer (some ⟨cb, 0, none⟩)) ∧ Same w w' := by
  have hlk := lock90 ⟨xb, 1, none⟩ w (Joins.cell_of_block hx 1) (Joins.unfrozen_of_block hx 1)
  obtain ⟨w1, hw1⟩ : ∃ w1, w.setCell ⟨xb, 1, none⟩ (.int .i32 1) = w1 := ⟨_, rfl⟩
  have hx1 : w1.heap[xb]? = some (.cells #[.slice vp K vc, .int .i32 1, .int .u32 0, .map (some mb)] 148 (0, 0)) := by
    rw [← hw1]
    have := Joins.block_setCell (i := 1) hx (.int .i32 1)
    simpa using this
  have hk1 : ∀ k, k ≠ xb → w1.heap[k]? = w.heap[k]? := fun k hne => by rw [← hw1]; exact Below.heap_setCell _ _ _ _ hne
  have hs1 : w1.heap.size = w.heap.size := by rw [← hw1]; simp [World.setCell]
  have hmx : mb ≠ xb := fun e => by subst e; exact map_no_cells hmb _ _ _ hx
  have hlook := ((hmb.block (hk1 mb hmx)).look_some (t := 140) (e := 150) Ybaz.underlying140 (s := aS) (v := .pointer (some ⟨cb, 0, none⟩)) (by simp)).1
  have x3 : w1.cell? ⟨xb, 3, none⟩ = some (.map (some mb)) := Joins.cell_of_block hx1 3
  have hA1 : Aside (w1.heap[xb]? = some (.cells #[.slice vp K vc, .int .i32 1, .int .u32 0, .map (some mb)] 148 (0, 0)) ∧ (∀ k, k ≠ xb → w1.heap[k]? = w.heap[k]?) ∧ w1.heap.size = w.heap.size ∧ w.setCell ⟨xb, 1, none⟩ (.int .i32 1) = w1 ∧ w.heap[xb]? = some (.cells #[.slice vp K vc, .int .i32 0, .int .u32 0, .map (some mb)] 148 (0, 0))) := ⟨hx1, hk1, hs1, hw1, hx⟩
  clear hx hmb hx1 hk1 hs1
  rw [hw1] at hlk
  clear hw1
  go_enter_defers Ybaz.func70, Ybaz.ntmps70
  go_wp2_with (first | (go_at_call 90; refine hlk.mono ?_; rintro e w2 ⟨rfl, hw2⟩; obtain rfl := hw2.symm) | fail)
  obtain ⟨hx1, hk1, hs1, hw1, hx⟩ := hA1.out
  refine leaves_cons (f := 91) (args := #[.pointer (some ⟨xb, 1, none⟩)]) (by simp) (by simp [go_sem]) ?_
  refine (unlock91 ⟨xb, 1, none⟩ .returning w1 (Joins.cell_of_block hx1 1) (Joins.unfrozen_of_block hx1 1)).mono ?_
  rintro e u' w4 ⟨rfl, rfl, rfl⟩
  refine ⟨_, results_tmp rfl _ _ _, rfl, by rw [← hw1]; rfl, by rw [← hw1]; rfl, by rw [← hw1]; rfl, by simp [World.setCell]; exact hs1, fun k => ?_⟩
  by_cases hkx : k = xb
  · subst hkx
    rw [hx]
    have := Joins.block_setCell (i := 1) hx1 (.int .i32 0)
    simpa using this
  · exact (Below.heap_setCell _ _ _ _ hkx).trans (hk1 k hkx)
end Go.Proofs.YbulkcelaGreatDoor
