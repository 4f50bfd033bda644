import Derived.Test.YbulkcekmRows
import Derived.Test.YbulkcekmMath
import Derived.WalkKit
import Derived.WalkSpells
import Derived.Outline
import Derived.Deep.QuietTactic
import Derived.BigQuiet
import Derived.RowKit3
import Derived.Deep.LoopGhost
namespace Go.Proofs.Ybulkcekm
open Go.RowKit

theorem unfrozen {w wr : World} (h : Grown w wr) (b o : Nat) (hb : w.heap.size ≤ b) : wr.frozen? ⟨b, o, none⟩ = false := by
  rw [h.2.1]
  simp [World.frozen?, Array.getElem?_eq_none hb]

/-- What holds of the world at the head of each round. -/
structure RRel (w : World) (x y p q r t : Int) (wr : World) : Prop where
  cx : wr.cell? ⟨w.heap.size, 0, none⟩ = some (.int .u64 x)
  cy : wr.cell? ⟨w.heap.size + 1, 0, none⟩ = some (.int .u64 y)
  z0 : wr.cell? ⟨w.heap.size + 1 + 1, 0, none⟩ = some (.int .u64 0)
  z1 : wr.cell? ⟨w.heap.size + 1 + 1, 1, none⟩ = some (.int .u64 0)
  z2 : wr.cell? ⟨w.heap.size + 1 + 1, 2, none⟩ = some (.int .u64 0)
  z3 : wr.cell? ⟨w.heap.size + 1 + 1, 3, none⟩ = some (.int .u64 0)
  c0 : wr.cell? ⟨w.heap.size + 1 + 1 + 1, 0, none⟩ = some (.int .u64 p)
  c1 : wr.cell? ⟨w.heap.size + 1 + 1 + 1, 1, none⟩ = some (.int .u64 q)
  c2 : wr.cell? ⟨w.heap.size + 1 + 1 + 1, 2, none⟩ = some (.int .u64 r)
  c3 : wr.cell? ⟨w.heap.size + 1 + 1 + 1, 3, none⟩ = some (.int .u64 t)
  big : w.heap.size + 4 ≤ wr.heap.size
  grown : Grown w wr

theorem RRel.alloc {w wr : World} {x y p q r t : Int} (h : RRel w x y p q r t wr) (c : Array Value) (T : TypeId) : RRel w x y p q r t (wr.alloc (.cells c T)) := by
  have hb := h.big
  exact ⟨(World.cell?_alloc_past _ _ _ (by omega)).trans h.cx, (World.cell?_alloc_past _ _ _ (by omega)).trans h.cy, (World.cell?_alloc_past _ _ _ (by omega)).trans h.z0, (World.cell?_alloc_past _ _ _ (by omega)).trans h.z1, (World.cell?_alloc_past _ _ _ (by omega)).trans h.z2, (World.cell?_alloc_past _ _ _ (by omega)).trans h.z3, (World.cell?_alloc_past _ _ _ (by omega)).trans h.c0, (World.cell?_alloc_past _ _ _ (by omega)).trans h.c1, (World.cell?_alloc_past _ _ _ (by omega)).trans h.c2, (World.cell?_alloc_past _ _ _ (by omega)).trans h.c3, by have := h.big; simp; omega, h.grown.alloc _ _⟩
theorem RRel.drewN {w wr : World} {x y p q r t : Int} (h : RRel w x y p q r t wr) (n : Nat) : RRel w x y p q r t (wr.drewN n) :=
  ⟨h.cx, h.cy, h.z0, h.z1, h.z2, h.z3, h.c0, h.c1, h.c2, h.c3, h.big, h.grown⟩
theorem RRel.drew {w wr : World} {x y p q r t : Int} (h : RRel w x y p q r t wr) : RRel w x y p q r t wr.drew :=
  ⟨h.cx, h.cy, h.z0, h.z1, h.z2, h.z3, h.c0, h.c1, h.c2, h.c3, h.big, h.grown⟩
theorem RRel.setx {w wr : World} {x y p q r t : Int} (h : RRel w x y p q r t wr) (v : Int) : RRel w v y p q r t (wr.setCell ⟨w.heap.size, 0, none⟩ (.int .u64 v)) :=
  ⟨World.cell?_setCell_same _ _ _ h.cx, (World.cell?_setCell_other _ _ _ _ (by simp)).trans h.cy, (World.cell?_setCell_other _ _ _ _ (by simp)).trans h.z0, (World.cell?_setCell_other _ _ _ _ (by simp)).trans h.z1, (World.cell?_setCell_other _ _ _ _ (by simp)).trans h.z2, (World.cell?_setCell_other _ _ _ _ (by simp)).trans h.z3, (World.cell?_setCell_other _ _ _ _ (by simp)).trans h.c0, (World.cell?_setCell_other _ _ _ _ (by simp)).trans h.c1, (World.cell?_setCell_other _ _ _ _ (by simp)).trans h.c2, (World.cell?_setCell_other _ _ _ _ (by simp)).trans h.c3, by have := h.big; simpa [World.setCell] using this, h.grown.setCell (by simp) _⟩
theorem RRel.sety {w wr : World} {x y p q r t : Int} (h : RRel w x y p q r t wr) (v : Int) : RRel w x v p q r t (wr.setCell ⟨w.heap.size + 1, 0, none⟩ (.int .u64 v)) :=
  ⟨(World.cell?_setCell_other _ _ _ _ (by simp)).trans h.cx, World.cell?_setCell_same _ _ _ h.cy, (World.cell?_setCell_other _ _ _ _ (by simp)).trans h.z0, (World.cell?_setCell_other _ _ _ _ (by simp)).trans h.z1, (World.cell?_setCell_other _ _ _ _ (by simp)).trans h.z2, (World.cell?_setCell_other _ _ _ _ (by simp)).trans h.z3, (World.cell?_setCell_other _ _ _ _ (by simp)).trans h.c0, (World.cell?_setCell_other _ _ _ _ (by simp)).trans h.c1, (World.cell?_setCell_other _ _ _ _ (by simp)).trans h.c2, (World.cell?_setCell_other _ _ _ _ (by simp)).trans h.c3, by have := h.big; simpa [World.setCell] using this, h.grown.setCell (by simp; try omega) _⟩
theorem RRel.set0 {w wr : World} {x y p q r t : Int} (h : RRel w x y p q r t wr) (v : Int) : RRel w x y v q r t (wr.setCell ⟨w.heap.size + 1 + 1 + 1, 0, none⟩ (.int .u64 v)) :=
  ⟨(World.cell?_setCell_other _ _ _ _ (by simp)).trans h.cx, (World.cell?_setCell_other _ _ _ _ (by simp)).trans h.cy, (World.cell?_setCell_other _ _ _ _ (by simp)).trans h.z0, (World.cell?_setCell_other _ _ _ _ (by simp)).trans h.z1, (World.cell?_setCell_other _ _ _ _ (by simp)).trans h.z2, (World.cell?_setCell_other _ _ _ _ (by simp)).trans h.z3, World.cell?_setCell_same _ _ _ h.c0, (World.cell?_setCell_other _ _ _ _ (by simp)).trans h.c1, (World.cell?_setCell_other _ _ _ _ (by simp)).trans h.c2, (World.cell?_setCell_other _ _ _ _ (by simp)).trans h.c3, by have := h.big; simpa [World.setCell] using this, h.grown.setCell (by simp; try omega) _⟩
theorem RRel.set1 {w wr : World} {x y p q r t : Int} (h : RRel w x y p q r t wr) (v : Int) : RRel w x y p v r t (wr.setCell ⟨w.heap.size + 1 + 1 + 1, 1, none⟩ (.int .u64 v)) :=
  ⟨(World.cell?_setCell_other _ _ _ _ (by simp)).trans h.cx, (World.cell?_setCell_other _ _ _ _ (by simp)).trans h.cy, (World.cell?_setCell_other _ _ _ _ (by simp)).trans h.z0, (World.cell?_setCell_other _ _ _ _ (by simp)).trans h.z1, (World.cell?_setCell_other _ _ _ _ (by simp)).trans h.z2, (World.cell?_setCell_other _ _ _ _ (by simp)).trans h.z3, (World.cell?_setCell_other _ _ _ _ (by simp)).trans h.c0, World.cell?_setCell_same _ _ _ h.c1, (World.cell?_setCell_other _ _ _ _ (by simp)).trans h.c2, (World.cell?_setCell_other _ _ _ _ (by simp)).trans h.c3, by have := h.big; simpa [World.setCell] using this, h.grown.setCell (by simp; try omega) _⟩
theorem RRel.set2 {w wr : World} {x y p q r t : Int} (h : RRel w x y p q r t wr) (v : Int) : RRel w x y p q v t (wr.setCell ⟨w.heap.size + 1 + 1 + 1, 2, none⟩ (.int .u64 v)) :=
  ⟨(World.cell?_setCell_other _ _ _ _ (by simp)).trans h.cx, (World.cell?_setCell_other _ _ _ _ (by simp)).trans h.cy, (World.cell?_setCell_other _ _ _ _ (by simp)).trans h.z0, (World.cell?_setCell_other _ _ _ _ (by simp)).trans h.z1, (World.cell?_setCell_other _ _ _ _ (by simp)).trans h.z2, (World.cell?_setCell_other _ _ _ _ (by simp)).trans h.z3, (World.cell?_setCell_other _ _ _ _ (by simp)).trans h.c0, (World.cell?_setCell_other _ _ _ _ (by simp)).trans h.c1, World.cell?_setCell_same _ _ _ h.c2, (World.cell?_setCell_other _ _ _ _ (by simp)).trans h.c3, by have := h.big; simpa [World.setCell] using this, h.grown.setCell (by simp; try omega) _⟩
theorem RRel.set3 {w wr : World} {x y p q r t : Int} (h : RRel w x y p q r t wr) (v : Int) : RRel w x y p q r v (wr.setCell ⟨w.heap.size + 1 + 1 + 1, 3, none⟩ (.int .u64 v)) :=
  ⟨(World.cell?_setCell_other _ _ _ _ (by simp)).trans h.cx, (World.cell?_setCell_other _ _ _ _ (by simp)).trans h.cy, (World.cell?_setCell_other _ _ _ _ (by simp)).trans h.z0, (World.cell?_setCell_other _ _ _ _ (by simp)).trans h.z1, (World.cell?_setCell_other _ _ _ _ (by simp)).trans h.z2, (World.cell?_setCell_other _ _ _ _ (by simp)).trans h.z3, (World.cell?_setCell_other _ _ _ _ (by simp)).trans h.c0, (World.cell?_setCell_other _ _ _ _ (by simp)).trans h.c1, (World.cell?_setCell_other _ _ _ _ (by simp)).trans h.c2, World.cell?_setCell_same _ _ _ h.c3, by have := h.big; simpa [World.setCell] using this, h.grown.setCell (by simp; try omega) _⟩

theorem wrap_of {n : Int} (h0 : 0 ≤ n) (h1 : n < 18446744073709551616) : IntKind.u64.wrap n = n := by rw [IntKind.wrap_u64]; omega

set_option maxHeartbeats 2000000 in
theorem rw_walk (a b s B : Int) (ha : 0 ≤ a) (ha' : a < 18446744073709551616) (hb : 0 ≤ b) (hb' : b < 18446744073709551616) (hs : 0 ≤ s) (hs' : s ≤ 63) (hB : IntKind.u64.wrap (2 ^ s.toNat) = B) (hB1 : 1 ≤ B) (hB2 : B < 18446744073709551616) (hab : B < a) (hbb : B < b) (w : World) :
    Calls Yba.prog 6 #[.int .u64 a, .int .u64 b, .int .i64 s] w fun e w' => ∃ n : Nat, e = .returned (.agg #[.int .u64 (it B n (st0 a b)).p, .int .u64 (it B n (st0 a b)).q, .int .u64 (it B n (st0 a b)).r, .int .u64 (it B n (st0 a b)).t]) ∧ Stop B (it B n (st0 a b)) ∧ Grown w w' := by
  have hna : ¬ a ≤ B := by omega
  have hnb : ¬ b ≤ B := by omega
  go_enter Yba.func6, Yba.ntmps6
  go_wp2
  go_loopg [] ((a + b).toNat) (fun k wr => ∃ x y p q r t : Int, ∃ n : Nat, it B n (st0 a b) = ⟨x, y, p, q, r, t⟩ ∧ Inv a b B ⟨x, y, p, q, r, t⟩ ∧ (x + y).toNat ≤ k ∧ RRel w x y p q r t wr)
  case atStart =>
    refine ⟨a, b, 1, 0, 0, 1, 0, rfl, Inv.start hab hbb, by omega, ?_⟩
    exact ⟨by simp [go_sem], by simp [go_sem], by simp [go_sem], by simp [go_sem], by simp [go_sem], by simp [go_sem], by simp [go_sem], by simp [go_sem], by simp [go_sem], by simp [go_sem], by simp, ((((Grown.refl _).alloc _ _).alloc _ _).alloc _ _).alloc _ _⟩
  case round =>
    obtain ⟨x, y, p, q, r, t, n, hn, hinv, hk, hR⟩ := hrel
    obtain ⟨cx, cy, z0, z1, z2, z3, c0, c1, c2, c3, hbig, hg⟩ := hR
    have hsz := hinv.sized (by omega)
    obtain ⟨p1, t1, xa, yb, pa, qa, rb, tb, _, _, _, _⟩ := hsz
    have hxB := hinv.hx
    have hyB := hinv.hy
    have q0 := hinv.q0
    have r0 := hinv.r0
    simp only at p1 t1 xa yb pa qa rb tb hxB hyB q0 r0
    have f0 := unfrozen hg w.heap.size 0 (by omega)
    have f1 := unfrozen hg (w.heap.size + 1) 0 (by omega)
    have f20 := unfrozen hg (w.heap.size + 1 + 1) 0 (by omega)
    have f21 := unfrozen hg (w.heap.size + 1 + 1) 1 (by omega)
    have f22 := unfrozen hg (w.heap.size + 1 + 1) 2 (by omega)
    have f23 := unfrozen hg (w.heap.size + 1 + 1) 3 (by omega)
    have f30 := unfrozen hg (w.heap.size + 1 + 1 + 1) 0 (by omega)
    have f31 := unfrozen hg (w.heap.size + 1 + 1 + 1) 1 (by omega)
    have f32 := unfrozen hg (w.heap.size + 1 + 1 + 1) 2 (by omega)
    have f33 := unfrozen hg (w.heap.size + 1 + 1 + 1) 3 (by omega)
    have A : Aside (it B n (st0 a b) = ⟨x, y, p, q, r, t⟩ ∧ Inv a b B ⟨x, y, p, q, r, t⟩ ∧ (x + y).toNat ≤ gk ∧ Grown w wr) := ⟨hn, hinv, hk, hg⟩
    clear hn hinv hk hg
    have n0 : w.heap.size < wr.heap.size := by omega
    have n1 : w.heap.size + 1 < wr.heap.size := by omega
    have n2 : w.heap.size + 1 + 1 < wr.heap.size := by omega
    have n3 : w.heap.size + 1 + 1 + 1 < wr.heap.size := by omega
    have n4 : w.heap.size < wr.heap.size + 1 := by omega
    by_cases hlt : x < y
    · by_cases hst : y - x ≤ B
      · go_wp2
        go_quiet (fail)
        go_wp2
        obtain ⟨hn, hinv, hk, hg⟩ := A.out
        refine bodyPost_ret (v := .agg #[.int .u64 p, .int .u64 q, .int .u64 r, .int .u64 t]) (by simp [results, Yba.results6, go_sem, n1, n2, z0, z1, z2, z3]) rfl ⟨n, by rw [hn], by rw [hn]; exact ⟨by simp only; omega, by simp only; omega⟩, ?_⟩
        exact (((((hg.alloc _ _).alloc _ _).setCell (by simp; omega) _).setCell (by simp; omega) _).setCell (by simp; omega) _).setCell (by simp; omega) _
      · have hbig' := big_y (by omega) (show Inv a b B ⟨x, y, p, q, r, t⟩ from A.out.2.1) (by simp only; omega)
        obtain ⟨hk1, hreach, hinv', kx0, kx1, kq0, kq1, kt0, kt1, hfall⟩ := hbig'
        simp only at kx0 kx1 kq0 kq1 kt0 kt1 hk1 hfall
        have e1 := wrap_of (n := (y - B - 1) / x * x) (by omega) (by omega)
        have e2 := wrap_of (n := y - (y - B - 1) / x * x) (by omega) (by omega)
        have e3 := wrap_of (n := (y - B - 1) / x * q) (by omega) (by omega)
        have e4 := wrap_of (n := p + (y - B - 1) / x * q) (by omega) (by omega)
        have e5 := wrap_of (n := (y - B - 1) / x * t) (by omega) (by omega)
        have e6 := wrap_of (n := r + (y - B - 1) / x * t) (by omega) (by omega)
        have A2 : Aside (it B ((y - B - 1) / x).toNat ⟨x, y, p, q, r, t⟩ = ⟨x, y - (y - B - 1) / x * x, p + (y - B - 1) / x * q, q, r + (y - B - 1) / x * t, t⟩ ∧ Inv a b B ⟨x, y - (y - B - 1) / x * x, p + (y - B - 1) / x * q, q, r + (y - B - 1) / x * t, t⟩) := ⟨hreach, hinv'⟩
        clear hreach hinv'
        go_wp2
        go_quiet (fail)
        go_wp2
        go_quiet (fail)
        go_wp2
        go_region
        go_wp2
        go_region
        go_wp2
        go_region
        go_wp2
        obtain ⟨hn, hinv, hk, hg⟩ := A.out
        obtain ⟨hreach, hinv'⟩ := A2.out
        go_roundg ((x + (y - (y - B - 1) / x * x)).toNat)
        case measure => omega
        case rel =>
          refine ⟨x, y - (y - B - 1) / x * x, p + (y - B - 1) / x * q, q, r + (y - B - 1) / x * t, t, n + ((y - B - 1) / x).toNat, ?_, hinv', Nat.le_refl _, ?_⟩
          · rw [it_add, hn, hreach]
          · exact (((((((RRel.mk cx cy z0 z1 z2 z3 c0 c1 c2 c3 hbig hg).alloc _ _).alloc _ _).drewN _).sety _).set0 _).set2 _).drew.drew
    · by_cases hst : x - y ≤ B
      · go_wp2
        go_quiet (fail)
        go_wp2
        obtain ⟨hn, hinv, hk, hg⟩ := A.out
        refine bodyPost_ret (v := .agg #[.int .u64 p, .int .u64 q, .int .u64 r, .int .u64 t]) (by simp [results, Yba.results6, go_sem, n1, n2, z0, z1, z2, z3]) rfl ⟨n, by rw [hn], by rw [hn]; exact ⟨by simp only; omega, by simp only; omega⟩, ?_⟩
        exact (((((hg.alloc _ _).alloc _ _).setCell (by simp; omega) _).setCell (by simp; omega) _).setCell (by simp; omega) _).setCell (by simp; omega) _
      · have hbig' := big_x (by omega) (show Inv a b B ⟨x, y, p, q, r, t⟩ from A.out.2.1) (by simp only; omega)
        obtain ⟨hk1, hreach, hinv', kx0, kx1, kq0, kq1, kt0, kt1, hfall⟩ := hbig'
        simp only at kx0 kx1 kq0 kq1 kt0 kt1 hk1 hfall
        have e1 := wrap_of (n := (x - B - 1) / y * y) (by omega) (by omega)
        have e2 := wrap_of (n := x - (x - B - 1) / y * y) (by omega) (by omega)
        have e3 := wrap_of (n := (x - B - 1) / y * p) (by omega) (by omega)
        have e4 := wrap_of (n := q + (x - B - 1) / y * p) (by omega) (by omega)
        have e5 := wrap_of (n := (x - B - 1) / y * r) (by omega) (by omega)
        have e6 := wrap_of (n := t + (x - B - 1) / y * r) (by omega) (by omega)
        have A2 : Aside (it B ((x - B - 1) / y).toNat ⟨x, y, p, q, r, t⟩ = ⟨x - (x - B - 1) / y * y, y, p, q + (x - B - 1) / y * p, r, t + (x - B - 1) / y * r⟩ ∧ Inv a b B ⟨x - (x - B - 1) / y * y, y, p, q + (x - B - 1) / y * p, r, t + (x - B - 1) / y * r⟩) := ⟨hreach, hinv'⟩
        clear hreach hinv'
        go_wp2
        go_quiet (fail)
        go_wp2
        go_quiet (fail)
        go_wp2
        go_region
        go_wp2
        go_region
        go_wp2
        go_region
        go_wp2
        obtain ⟨hn, hinv, hk, hg⟩ := A.out
        obtain ⟨hreach, hinv'⟩ := A2.out
        go_roundg (((x - (x - B - 1) / y * y) + y).toNat)
        case measure => omega
        case rel =>
          refine ⟨x - (x - B - 1) / y * y, y, p, q + (x - B - 1) / y * p, r, t + (x - B - 1) / y * r, n + ((x - B - 1) / y).toNat, ?_, hinv', Nat.le_refl _, ?_⟩
          · rw [it_add, hn, hreach]
          · exact (((((((RRel.mk cx cy z0 z1 z2 z3 c0 c1 c2 c3 hbig hg).alloc _ _).alloc _ _).drewN _).setx _).set1 _).set3 _).drew.drew
theorem rw_small (a b s B : Int) (hs : 0 ≤ s) (hs' : s ≤ 63) (hB : IntKind.u64.wrap (2 ^ s.toNat) = B) (hab : a ≤ B ∨ b ≤ B) (w : World) :
    Calls Yba.prog 6 #[.int .u64 a, .int .u64 b, .int .i64 s] w fun e w' => e = .returned (.agg #[.int .u64 1, .int .u64 0, .int .u64 0, .int .u64 1]) ∧ Grown w w' := by
  by_cases h1 : a ≤ B
  · go_enter Yba.func6, Yba.ntmps6
    go_wp2
    exact bodyPost_ret (v := .agg #[.int .u64 1, .int .u64 0, .int .u64 0, .int .u64 1]) (by simp [results, Yba.results6, go_sem]) rfl ⟨rfl, ((((Grown.refl _).alloc _ _).alloc _ _).alloc _ _).alloc _ _⟩
  · have h2 : b ≤ B := by omega
    go_enter Yba.func6, Yba.ntmps6
    go_wp2
    exact bodyPost_ret (v := .agg #[.int .u64 1, .int .u64 0, .int .u64 0, .int .u64 1]) (by simp [results, Yba.results6, go_sem]) rfl ⟨rfl, ((((Grown.refl _).alloc _ _).alloc _ _).alloc _ _).alloc _ _⟩

end Go.Proofs.Ybulkcekm
