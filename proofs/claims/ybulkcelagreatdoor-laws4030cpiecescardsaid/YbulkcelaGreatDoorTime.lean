/-
  THE TIMES, all of them whole seconds with no wall clock (seat b4030aZD).
-/
import Derived.Test.YbulkcelaGreatDoorKit
namespace Go.Proofs.YbulkcelaGreatDoor
open Go.RowKit Go.Sort

theorem and_mono0 : bits .and .u64 0 9223372036854775808 = 0 := by
  rw [u64_and 0 _ (by omega) (by omega) (by omega) (by omega)]; simp
theorem and_zero_mask : bits .and .u64 0 1073741823 = 0 := by
  rw [u64_and 0 _ (by omega) (by omega) (by omega) (by omega)]; simp
theorem and_zero0 : bits .and .u64 0 0 = 0 := by
  rw [u64_and 0 _ (by omega) (by omega) (by omega) (by omega)]; simp
theorem andNot_zero_mask : bits .andNot .u64 0 1073741823 = 0 := by
  rw [u64_andNot 0 _ (by omega) (by omega) (by omega) (by omega)]; simp
theorem or_zero0 : bits .or .u64 0 0 = 0 := by
  rw [u64_or 0 _ (by omega) (by omega) (by omega) (by omega)]; simp

/-- A time of whole seconds. -/
abbrev tv (e : Int) : Value := .agg #[.int .u64 0, .int .i64 e, .pointer none]

theorem nsec14 (b o : Nat) (w : World) (hc : w.cell? ⟨b, o, none⟩ = some (.int .u64 0)) :
    Calls Ybaz.prog 14 #[.pointer (some ⟨b, o, none⟩)] w fun e w' => e = .returned (.int .i32 0) ∧ w' = w := by
  have e := and_zero_mask
  go_enter Ybaz.func14, Ybaz.ntmps14
  go_wp2
  go_ret
  exact ⟨rfl, rfl⟩

theorem sec27 (b o : Nat) (e : Int) (w : World) (hc : w.cell? ⟨b, o, none⟩ = some (.int .u64 0)) (hc1 : w.cell? ⟨b, o + 1, none⟩ = some (.int .i64 e)) :
    Calls Ybaz.prog 27 #[.pointer (some ⟨b, o, none⟩)] w fun x w' => x = .returned (.int .i64 e) ∧ w' = w := by
  have k := and_mono0
  go_enter Ybaz.func27, Ybaz.ntmps27
  go_wp2
  go_ret
  exact ⟨rfl, rfl⟩

theorem unixSec52 (b o : Nat) (e : Int) (w : World) (h0 : -9000000000000000000 ≤ e) (h1 : e ≤ 9000000000000000000) (hc : w.cell? ⟨b, o, none⟩ = some (.int .u64 0)) (hc1 : w.cell? ⟨b, o + 1, none⟩ = some (.int .i64 e)) :
    Calls Ybaz.prog 52 #[.pointer (some ⟨b, o, none⟩)] w fun x w' => x = .returned (.int .i64 (e - 62135596800)) ∧ w' = w := by
  have hs := sec27 b o e w hc hc1
  go_enter Ybaz.func52, Ybaz.ntmps52
  go_wp2_with (go_at_call 27; refine hs.mono ?_; rintro x w1 ⟨rfl, rfl⟩)
  go_ret
  exact ⟨rfl, rfl⟩

theorem addSec15 (b o : Nat) (e d : Int) (w : World) (h0 : -4000000000000000000 ≤ d) (h1 : d ≤ 4000000000000000000) (e0 : -4000000000000000000 ≤ e) (e1 : e ≤ 4000000000000000000) (hc : w.cell? ⟨b, o, none⟩ = some (.int .u64 0)) (hc1 : w.cell? ⟨b, o + 1, none⟩ = some (.int .i64 e)) (hf : w.frozen? ⟨b, o + 1, none⟩ = false) :
    Calls Ybaz.prog 15 #[.pointer (some ⟨b, o, none⟩), .int .i64 d] w fun x w' => x = .returned (.tuple #[]) ∧ w' = w.setCell ⟨b, o + 1, none⟩ (.int .i64 (e + d)) := by
  have k := and_mono0
  by_cases hd : 0 < d
  · have hs : e < e + d := by omega
    go_enter Ybaz.func15, Ybaz.ntmps15
    go_wp2
    go_end0
    exact ⟨rfl, rfl⟩
  · have hs : decide (e < e + d) = false := decide_eq_false (by omega)
    go_enter Ybaz.func15, Ybaz.ntmps15
    go_wp2
    go_end0
    exact ⟨rfl, rfl⟩

theorem add4 (e s : Int) (hs0 : -1000000 ≤ s) (hs1 : s ≤ 1000000) (e0 : -4000000000 ≤ e) (e1 : e ≤ 4000000000) (w : World) :
    Calls Ybaz.prog 4 #[tv e, .int .i64 (s * 1000000000)] w fun x w' => x = .returned (tv (e + s)) ∧ Lays w w' := by
  have k1 := andNot_zero_mask
  have k2 := or_zero0
  have k3 := and_mono0
  have hq : (s * 1000000000).tdiv 1000000000 = s := Int.mul_tdiv_cancel _ (by omega)
  have hr : (s * 1000000000).tmod 1000000000 = 0 := Int.mul_tmod_left _ _
  obtain ⟨d, hd⟩ : ∃ d, s * 1000000000 = d := ⟨_, rfl⟩
  rw [hd] at hq hr ⊢
  have d0 : -1000000000000000 ≤ d := by omega
  have d1 : d ≤ 1000000000000000 := by omega
  clear hd
  go_enter Ybaz.func4, Ybaz.ntmps4
  go_wp2_with fail
  refine (nsec14 _ _ _ (by simp [go_sem])).mono ?_
  rintro e w' ⟨rfl, rfl⟩
  go_wp2_with fail
  refine (addSec15 _ _ e s _ (by omega) (by omega) (by omega) (by omega) (by simp [go_sem]) (by simp [go_sem]) (by simp [go_sem])).mono ?_
  rintro e w' ⟨rfl, rfl⟩
  go_wp2
  refine bodyPost_ret (v := tv (e + s)) (by simp [results, Ybaz.results4, go_sem]) rfl ⟨rfl, ?_⟩
  exact lays_two _ _ _

/-- zzs4030cat. -/
theorem cat6 (e s : Int) (hs0 : -1000000 ≤ s) (hs1 : s ≤ 1000000) (e0 : -4000000000 ≤ e) (e1 : e ≤ 4000000000) (w : World) :
    Calls Ybaz.prog 6 #[tv e, .int .i64 s] w fun x w' => x = .returned (tv (e + s)) ∧ Lays w w' := by
  have ha := add4 e s hs0 hs1 e0 e1
  go_enter Ybaz.func6, Ybaz.ntmps6
  go_wp2_with fail
  refine (ha _).mono ?_
  rintro x w1 ⟨rfl, hl⟩
  have hb := hl.below
  clear ha
  have c0 := hb.cell (p := ⟨w.heap.size + 1, 0, none⟩) (by simp)
  have c1 := hb.cell (p := ⟨w.heap.size + 1, 1, none⟩) (by simp)
  have c2 := hb.cell (p := ⟨w.heap.size + 1, 2, none⟩) (by simp)
  have f0 := hb.frozen (p := ⟨w.heap.size + 1, 0, none⟩) (by simp)
  have f1 := hb.frozen (p := ⟨w.heap.size + 1, 1, none⟩) (by simp)
  have f2 := hb.frozen (p := ⟨w.heap.size + 1, 2, none⟩) (by simp)
  simp [go_sem] at c0 c1 c2 f0 f1 f2
  go_wp2
  refine bodyPost_ret (v := tv (e + s)) (by simp [results, Ybaz.results6, go_sem, c0, c1, c2]) rfl ⟨rfl, ?_⟩
  exact ((((lays_two _ _ _).trans hl).setCell (by omega) _).setCell (by omega) _).setCell (by omega) _

/-- zzs4030cval. -/
def valS (i : Nat) : ByteArray := if i = 0 then ⟨#[120]⟩ else if i = 1 then ⟨#[121]⟩ else ⟨#[122]⟩
theorem val5 (i : Nat) (hi : i < 3) (w : World) : Calls Ybaz.prog 5 #[.int .i64 i] w fun x w' => x = .returned (.string (valS i)) ∧ w' = w := by
  rcases (show i = 0 ∨ i = 1 ∨ i = 2 by omega) with rfl | rfl | rfl
  all_goals
    go_enter Ybaz.func5, Ybaz.ntmps5
    go_wp2
    go_ret
    exact ⟨rfl, rfl⟩

theorem isZero19 (e : Int) (w : World) : Calls Ybaz.prog 19 #[tv e] w fun x w' => x = .returned (.bool (e == 0)) ∧ Lays w w' := by
  cases h2 : (e == 0)
  all_goals
    go_enter Ybaz.func19, Ybaz.ntmps19
    go_wp2
    go_ret
    exact ⟨rfl, (Lays.refl w).alloc _⟩

/-- (*Contract).HasFlight, where it starts behind the zero time. -/
theorem hasFlight28 (b o : Nat) (s : Int) (w : World) (hs : s ≠ 0)
    (c3 : w.cell? ⟨b, o + 3, none⟩ = some (.int .u64 0)) (c4 : w.cell? ⟨b, o + 4, none⟩ = some (.int .i64 s)) (c5 : w.cell? ⟨b, o + 5, none⟩ = some (.pointer none)) :
    Calls Ybaz.prog 28 #[.pointer (some ⟨b, o, none⟩)] w fun x w' => x = .returned (.bool true) ∧ Lays w w' := by
  have hz := isZero19 s w
  rw [show (s == 0) = false from beq_eq_false_iff_ne.2 hs] at hz
  go_enter Ybaz.func28, Ybaz.ntmps28
  go_wp2_with (go_at_call 19; refine hz.mono ?_; rintro x w1 ⟨rfl, hb⟩)
  go_ret
  exact ⟨rfl, hb⟩

theorem two_cells (x y : Int) (w : World) :
    let W := (w.alloc (.cells #[.int .u64 0, .int .i64 x, .pointer none] 29)).alloc (.cells #[.int .u64 0, .int .i64 y, .pointer none] 29)
    (Calls Ybaz.prog 27 #[.pointer (some ⟨w.heap.size, 0, none⟩)] W fun r w' => r = .returned (.int .i64 x) ∧ w' = W) ∧
    (Calls Ybaz.prog 27 #[.pointer (some ⟨w.heap.size + 1, 0, none⟩)] W fun r w' => r = .returned (.int .i64 y) ∧ w' = W) ∧
    (Calls Ybaz.prog 14 #[.pointer (some ⟨w.heap.size, 0, none⟩)] W fun r w' => r = .returned (.int .i32 0) ∧ w' = W) ∧
    (Calls Ybaz.prog 14 #[.pointer (some ⟨w.heap.size + 1, 0, none⟩)] W fun r w' => r = .returned (.int .i32 0) ∧ w' = W) := by
  refine ⟨sec27 _ _ _ _ ?_ ?_, sec27 _ _ _ _ ?_ ?_, nsec14 _ _ _ ?_, nsec14 _ _ _ ?_⟩ <;> simp [go_sem]

set_option maxRecDepth 100000 in
theorem before20 (x y : Int) (w : World) : Calls Ybaz.prog 20 #[tv x, tv y] w fun r w' => r = .returned (Value.bool (decide (x < y))) ∧ Lays w w' := by
  have k := and_mono0
  have k0 := and_zero0
  obtain ⟨hs1, hs2, hn1, hn2⟩ := two_cells x y w
  rcases Int.lt_trichotomy x y with h | h | h
  · obtain ⟨R, hR⟩ : ∃ R, Value.bool (decide (x < y)) = R := ⟨_, rfl⟩
    rw [hR]
    have hA : Aside (Value.bool (decide (x < y)) = R) := hR
    clear hR
    have hb : (x == y) = false := beq_eq_false_iff_ne.2 (by omega)
    have hg : decide (y < x) = false := decide_eq_false (by omega)
    go_enter Ybaz.func20, Ybaz.ntmps20
    go_wp2_with (first
      | (go_at_call 27; with_reducible refine hs1.mono ?_; rintro _ _ ⟨rfl, rfl⟩)
      | (go_at_call 27; with_reducible refine hs2.mono ?_; rintro _ _ ⟨rfl, rfl⟩)
      | (go_at_call 14; with_reducible refine hn1.mono ?_; rintro _ _ ⟨rfl, rfl⟩)
      | (go_at_call 14; with_reducible refine hn2.mono ?_; rintro _ _ ⟨rfl, rfl⟩))
    go_ret
    refine ⟨?_, lays_two _ _ _⟩
    rw [← hA.out]
    simp
    try omega
  · obtain ⟨R, hR⟩ : ∃ R, Value.bool (decide (x < y)) = R := ⟨_, rfl⟩
    rw [hR]
    subst h
    have hA : Aside (Value.bool (decide (x < x)) = R) := hR
    clear hR
    go_enter Ybaz.func20, Ybaz.ntmps20
    go_wp2_with (first
      | (go_at_call 27; with_reducible refine hs1.mono ?_; rintro _ _ ⟨rfl, rfl⟩)
      | (go_at_call 27; with_reducible refine hs2.mono ?_; rintro _ _ ⟨rfl, rfl⟩)
      | (go_at_call 14; with_reducible refine hn1.mono ?_; rintro _ _ ⟨rfl, rfl⟩)
      | (go_at_call 14; with_reducible refine hn2.mono ?_; rintro _ _ ⟨rfl, rfl⟩))
    go_ret
    refine ⟨?_, lays_two _ _ _⟩
    rw [← hA.out]
    simp
    try omega
  · obtain ⟨R, hR⟩ : ∃ R, Value.bool (decide (x < y)) = R := ⟨_, rfl⟩
    rw [hR]
    have hA : Aside (Value.bool (decide (x < y)) = R) := hR
    clear hR
    have hb : (x == y) = false := beq_eq_false_iff_ne.2 (by omega)
    have hg : decide (x < y) = false := decide_eq_false (by omega)
    go_enter Ybaz.func20, Ybaz.ntmps20
    go_wp2_with (first
      | (go_at_call 27; with_reducible refine hs1.mono ?_; rintro _ _ ⟨rfl, rfl⟩)
      | (go_at_call 27; with_reducible refine hs2.mono ?_; rintro _ _ ⟨rfl, rfl⟩)
      | (go_at_call 14; with_reducible refine hn1.mono ?_; rintro _ _ ⟨rfl, rfl⟩)
      | (go_at_call 14; with_reducible refine hn2.mono ?_; rintro _ _ ⟨rfl, rfl⟩))
    go_ret
    refine ⟨?_, lays_two _ _ _⟩
    rw [← hA.out]
    simp
    try omega

set_option maxRecDepth 100000 in
theorem after24 (x y : Int) (w : World) : Calls Ybaz.prog 24 #[tv x, tv y] w fun r w' => r = .returned (Value.bool (decide (y < x))) ∧ Lays w w' := by
  have k := and_mono0
  have k0 := and_zero0
  obtain ⟨hs1, hs2, hn1, hn2⟩ := two_cells x y w
  rcases Int.lt_trichotomy x y with h | h | h
  · obtain ⟨R, hR⟩ : ∃ R, Value.bool (decide (y < x)) = R := ⟨_, rfl⟩
    rw [hR]
    have hA : Aside (Value.bool (decide (y < x)) = R) := hR
    clear hR
    have hb : (x == y) = false := beq_eq_false_iff_ne.2 (by omega)
    have hg : decide (y < x) = false := decide_eq_false (by omega)
    go_enter Ybaz.func24, Ybaz.ntmps24
    go_wp2_with (first
      | (go_at_call 27; with_reducible refine hs1.mono ?_; rintro _ _ ⟨rfl, rfl⟩)
      | (go_at_call 27; with_reducible refine hs2.mono ?_; rintro _ _ ⟨rfl, rfl⟩)
      | (go_at_call 14; with_reducible refine hn1.mono ?_; rintro _ _ ⟨rfl, rfl⟩)
      | (go_at_call 14; with_reducible refine hn2.mono ?_; rintro _ _ ⟨rfl, rfl⟩))
    go_ret
    refine ⟨?_, lays_two _ _ _⟩
    rw [← hA.out]
    simp
    try omega
  · obtain ⟨R, hR⟩ : ∃ R, Value.bool (decide (y < x)) = R := ⟨_, rfl⟩
    rw [hR]
    subst h
    have hA : Aside (Value.bool (decide (x < x)) = R) := hR
    clear hR
    go_enter Ybaz.func24, Ybaz.ntmps24
    go_wp2_with (first
      | (go_at_call 27; with_reducible refine hs1.mono ?_; rintro _ _ ⟨rfl, rfl⟩)
      | (go_at_call 27; with_reducible refine hs2.mono ?_; rintro _ _ ⟨rfl, rfl⟩)
      | (go_at_call 14; with_reducible refine hn1.mono ?_; rintro _ _ ⟨rfl, rfl⟩)
      | (go_at_call 14; with_reducible refine hn2.mono ?_; rintro _ _ ⟨rfl, rfl⟩))
    go_ret
    refine ⟨?_, lays_two _ _ _⟩
    rw [← hA.out]
    simp
    try omega
  · obtain ⟨R, hR⟩ : ∃ R, Value.bool (decide (y < x)) = R := ⟨_, rfl⟩
    rw [hR]
    have hA : Aside (Value.bool (decide (y < x)) = R) := hR
    clear hR
    have hb : (x == y) = false := beq_eq_false_iff_ne.2 (by omega)
    have hg : decide (x < y) = false := decide_eq_false (by omega)
    go_enter Ybaz.func24, Ybaz.ntmps24
    go_wp2_with (first
      | (go_at_call 27; with_reducible refine hs1.mono ?_; rintro _ _ ⟨rfl, rfl⟩)
      | (go_at_call 27; with_reducible refine hs2.mono ?_; rintro _ _ ⟨rfl, rfl⟩)
      | (go_at_call 14; with_reducible refine hn1.mono ?_; rintro _ _ ⟨rfl, rfl⟩)
      | (go_at_call 14; with_reducible refine hn2.mono ?_; rintro _ _ ⟨rfl, rfl⟩))
    go_ret
    refine ⟨?_, lays_two _ _ _⟩
    rw [← hA.out]
    simp
    try omega

set_option maxRecDepth 100000 in
theorem equal12 (x y : Int) (w : World) : Calls Ybaz.prog 12 #[tv x, tv y] w fun r w' => r = .returned (Value.bool (decide (x = y))) ∧ Lays w w' := by
  have k := and_mono0
  have k0 := and_zero0
  obtain ⟨hs1, hs2, hn1, hn2⟩ := two_cells x y w
  rcases Int.lt_trichotomy x y with h | h | h
  · obtain ⟨R, hR⟩ : ∃ R, Value.bool (decide (x = y)) = R := ⟨_, rfl⟩
    rw [hR]
    have hA : Aside (Value.bool (decide (x = y)) = R) := hR
    clear hR
    have hb : (x == y) = false := beq_eq_false_iff_ne.2 (by omega)
    have hg : decide (y < x) = false := decide_eq_false (by omega)
    go_enter Ybaz.func12, Ybaz.ntmps12
    go_wp2_with (first
      | (go_at_call 27; with_reducible refine hs1.mono ?_; rintro _ _ ⟨rfl, rfl⟩)
      | (go_at_call 27; with_reducible refine hs2.mono ?_; rintro _ _ ⟨rfl, rfl⟩)
      | (go_at_call 14; with_reducible refine hn1.mono ?_; rintro _ _ ⟨rfl, rfl⟩)
      | (go_at_call 14; with_reducible refine hn2.mono ?_; rintro _ _ ⟨rfl, rfl⟩))
    go_ret
    refine ⟨?_, lays_two _ _ _⟩
    rw [← hA.out]
    simp
    try omega
  · obtain ⟨R, hR⟩ : ∃ R, Value.bool (decide (x = y)) = R := ⟨_, rfl⟩
    rw [hR]
    subst h
    have hA : Aside (Value.bool (decide (x = x)) = R) := hR
    clear hR
    go_enter Ybaz.func12, Ybaz.ntmps12
    go_wp2_with (first
      | (go_at_call 27; with_reducible refine hs1.mono ?_; rintro _ _ ⟨rfl, rfl⟩)
      | (go_at_call 27; with_reducible refine hs2.mono ?_; rintro _ _ ⟨rfl, rfl⟩)
      | (go_at_call 14; with_reducible refine hn1.mono ?_; rintro _ _ ⟨rfl, rfl⟩)
      | (go_at_call 14; with_reducible refine hn2.mono ?_; rintro _ _ ⟨rfl, rfl⟩))
    go_ret
    refine ⟨?_, lays_two _ _ _⟩
    rw [← hA.out]
    simp
    try omega
  · obtain ⟨R, hR⟩ : ∃ R, Value.bool (decide (x = y)) = R := ⟨_, rfl⟩
    rw [hR]
    have hA : Aside (Value.bool (decide (x = y)) = R) := hR
    clear hR
    have hb : (x == y) = false := beq_eq_false_iff_ne.2 (by omega)
    have hg : decide (x < y) = false := decide_eq_false (by omega)
    go_enter Ybaz.func12, Ybaz.ntmps12
    go_wp2_with (first
      | (go_at_call 27; with_reducible refine hs1.mono ?_; rintro _ _ ⟨rfl, rfl⟩)
      | (go_at_call 27; with_reducible refine hs2.mono ?_; rintro _ _ ⟨rfl, rfl⟩)
      | (go_at_call 14; with_reducible refine hn1.mono ?_; rintro _ _ ⟨rfl, rfl⟩)
      | (go_at_call 14; with_reducible refine hn2.mono ?_; rintro _ _ ⟨rfl, rfl⟩))
    go_ret
    refine ⟨?_, lays_two _ _ _⟩
    rw [← hA.out]
    simp
    try omega

set_option maxRecDepth 100000 in
theorem compare58 (x y : Int) (w : World) : Calls Ybaz.prog 58 #[tv x, tv y] w fun r w' => r = .returned (Value.int .i64 (if x < y then -1 else if y < x then 1 else 0)) ∧ Lays w w' := by
  have k := and_mono0
  have k0 := and_zero0
  obtain ⟨hs1, hs2, hn1, hn2⟩ := two_cells x y w
  rcases Int.lt_trichotomy x y with h | h | h
  · obtain ⟨R, hR⟩ : ∃ R, Value.int .i64 (if x < y then -1 else if y < x then 1 else 0) = R := ⟨_, rfl⟩
    rw [hR]
    have hA : Aside (Value.int .i64 (if x < y then -1 else if y < x then 1 else 0) = R) := hR
    clear hR
    have hb : (x == y) = false := beq_eq_false_iff_ne.2 (by omega)
    have hg : decide (y < x) = false := decide_eq_false (by omega)
    go_enter Ybaz.func58, Ybaz.ntmps58
    go_wp2_with (first
      | (go_at_call 27; with_reducible refine hs1.mono ?_; rintro _ _ ⟨rfl, rfl⟩)
      | (go_at_call 27; with_reducible refine hs2.mono ?_; rintro _ _ ⟨rfl, rfl⟩)
      | (go_at_call 14; with_reducible refine hn1.mono ?_; rintro _ _ ⟨rfl, rfl⟩)
      | (go_at_call 14; with_reducible refine hn2.mono ?_; rintro _ _ ⟨rfl, rfl⟩))
    go_ret
    refine ⟨?_, lays_two _ _ _⟩
    rw [← hA.out]
    simp
    try omega
  · obtain ⟨R, hR⟩ : ∃ R, Value.int .i64 (if x < y then -1 else if y < x then 1 else 0) = R := ⟨_, rfl⟩
    rw [hR]
    subst h
    have hA : Aside (Value.int .i64 (if x < x then -1 else if x < x then 1 else 0) = R) := hR
    clear hR
    go_enter Ybaz.func58, Ybaz.ntmps58
    go_wp2_with (first
      | (go_at_call 27; with_reducible refine hs1.mono ?_; rintro _ _ ⟨rfl, rfl⟩)
      | (go_at_call 27; with_reducible refine hs2.mono ?_; rintro _ _ ⟨rfl, rfl⟩)
      | (go_at_call 14; with_reducible refine hn1.mono ?_; rintro _ _ ⟨rfl, rfl⟩)
      | (go_at_call 14; with_reducible refine hn2.mono ?_; rintro _ _ ⟨rfl, rfl⟩))
    go_ret
    refine ⟨?_, lays_two _ _ _⟩
    rw [← hA.out]
    simp
    try omega
  · obtain ⟨R, hR⟩ : ∃ R, Value.int .i64 (if x < y then -1 else if y < x then 1 else 0) = R := ⟨_, rfl⟩
    rw [hR]
    have hA : Aside (Value.int .i64 (if x < y then -1 else if y < x then 1 else 0) = R) := hR
    clear hR
    have hb : (x == y) = false := beq_eq_false_iff_ne.2 (by omega)
    have hg : decide (x < y) = false := decide_eq_false (by omega)
    go_enter Ybaz.func58, Ybaz.ntmps58
    go_wp2_with (first
      | (go_at_call 27; with_reducible refine hs1.mono ?_; rintro _ _ ⟨rfl, rfl⟩)
      | (go_at_call 27; with_reducible refine hs2.mono ?_; rintro _ _ ⟨rfl, rfl⟩)
      | (go_at_call 14; with_reducible refine hn1.mono ?_; rintro _ _ ⟨rfl, rfl⟩)
      | (go_at_call 14; with_reducible refine hn2.mono ?_; rintro _ _ ⟨rfl, rfl⟩))
    go_ret
    refine ⟨?_, lays_two _ _ _⟩
    rw [← hA.out]
    simp
    try omega

theorem unix31 (e : Int) (h0 : -9000000000000000000 ≤ e) (h1 : e ≤ 9000000000000000000) (w : World) : Calls Ybaz.prog 31 #[tv e] w fun r w' => r = .returned (.int .i64 (e - 62135596800)) ∧ Lays w w' := by
  have hs := unixSec52 w.heap.size 0 e (w.alloc (.cells #[.int .u64 0, .int .i64 e, .pointer none] 29)) h0 h1 (by simp [go_sem]) (by simp [go_sem])
  go_enter Ybaz.func31, Ybaz.ntmps31
  go_wp2_with (go_at_call 52; with_reducible refine hs.mono ?_; rintro _ _ ⟨rfl, rfl⟩)
  go_ret
  exact ⟨rfl, (Lays.refl w).alloc _⟩

theorem nano32 (e : Int) (w : World) : Calls Ybaz.prog 32 #[tv e] w fun r w' => r = .returned (.int .i64 0) ∧ Lays w w' := by
  have hs := nsec14 w.heap.size 0 (w.alloc (.cells #[.int .u64 0, .int .i64 e, .pointer none] 29)) (by simp [go_sem])
  go_enter Ybaz.func32, Ybaz.ntmps32
  go_wp2_with (go_at_call 14; with_reducible refine hs.mono ?_; rintro _ _ ⟨rfl, rfl⟩)
  go_ret
  exact ⟨rfl, (Lays.refl w).alloc _⟩

end Go.Proofs.YbulkcelaGreatDoor
