/-
  THE TIMES: (time.Time).Add at the zero time, IsZero, HasFlight (seat b4030a).
-/
import Derived.Test.YbulkcelaRows
import Derived.WalkKit
import Derived.WalkSpells
import Derived.WalkLawsBesides
import Derived.Outline
import Derived.Deep.QuietTactic
import Derived.BigQuiet
import Derived.RowKit3
import Derived.Laws.BitsAllLaws
namespace Go.Proofs.Ybulkcela
open Go.RowKit

theorem td_nonneg (d : Int) (h : 0 ≤ d) : d.tdiv 1000000000 = d / 1000000000 ∧ d.tmod 1000000000 = d % 1000000000 :=
  ⟨Int.tdiv_eq_ediv_of_nonneg h, Int.tmod_eq_emod_of_nonneg h⟩

theorem td_neg (d : Int) (h : d < 0) : d.tdiv 1000000000 = - ((- d) / 1000000000) ∧ d.tmod 1000000000 = - ((- d) % 1000000000) := by
  have e1 : d.tdiv 1000000000 = - ((-d).tdiv 1000000000) := by rw [Int.neg_tdiv]; omega
  have e2 : d.tmod 1000000000 = - ((-d).tmod 1000000000) := by rw [Int.neg_tmod]; omega
  rw [e1, e2, Int.tdiv_eq_ediv_of_nonneg (by omega), Int.tmod_eq_emod_of_nonneg (by omega)]
  exact ⟨rfl, rfl⟩



theorem and_mono (r : Int) (h0 : 0 ≤ r) (h1 : r < 1073741824) : bits .and .u64 r 9223372036854775808 = 0 := by
  rw [u64_and r _ h0 (by omega) (by omega) (by omega)]
  have e : r.toNat &&& (9223372036854775808 : Int).toNat = 0 := by
    have hlt : r.toNat < 2 ^ 63 := by omega
    show r.toNat &&& 2 ^ 63 = 0
    apply Nat.eq_of_testBit_eq
    intro i
    rw [Nat.testBit_and, Nat.testBit_two_pow, Nat.zero_testBit]
    by_cases h : 63 = i
    · subst h; rw [Nat.testBit_lt_two_pow hlt]; rfl
    · simp [h]
  rw [e]; rfl
theorem and_zero_mask : bits .and .u64 0 1073741823 = 0 := by
  rw [u64_and 0 _ (by omega) (by omega) (by omega) (by omega)]; simp
theorem andNot_zero_mask : bits .andNot .u64 0 1073741823 = 0 := by
  rw [u64_andNot 0 _ (by omega) (by omega) (by omega) (by omega)]; simp
theorem or_zero (r : Int) (h0 : 0 ≤ r) (h1 : r < 18446744073709551616) : bits .or .u64 0 r = r := by
  rw [u64_or 0 _ (by omega) (by omega) h0 h1]; simp; omega

theorem nsec0 (b o : Nat) (w : World) (hc : w.cell? ⟨b, o, none⟩ = some (.int .u64 0)) :
    Calls Yba.prog 17 #[.pointer (some ⟨b, o, none⟩)] w fun e w' => e = .returned (.int .i32 0) ∧ w' = w := by
  have e := and_zero_mask
  go_enter Yba.func17, Yba.ntmps17
  go_wp2
  go_ret
  exact ⟨rfl, rfl⟩

theorem addSec0 (b o : Nat) (r d : Int) (w : World) (hr0 : 0 ≤ r) (hr1 : r < 1000000000) (h0 : -9223372036854775808 ≤ d) (h1 : d ≤ 9223372036854775807) (hc : w.cell? ⟨b, o, none⟩ = some (.int .u64 r)) (hc1 : w.cell? ⟨b, o + 1, none⟩ = some (.int .i64 0)) (hf : w.frozen? ⟨b, o + 1, none⟩ = false) :
    Calls Yba.prog 18 #[.pointer (some ⟨b, o, none⟩), .int .i64 d] w fun e w' => e = .returned (.tuple #[]) ∧ w' = w.setCell ⟨b, o + 1, none⟩ (.int .i64 d) := by
  have e := and_mono r hr0 (by omega)
  by_cases hd : 0 < d
  · go_enter Yba.func18, Yba.ntmps18
    go_wp2
    go_end0
    exact ⟨rfl, rfl⟩
  · go_enter Yba.func18, Yba.ntmps18
    go_wp2
    go_end0
    exact ⟨rfl, rfl⟩

theorem add_at (d q r : Int) (hq0 : -9223372037 ≤ q) (hq1 : q ≤ 9223372036) (hr0 : 0 ≤ r) (hr1 : r < 1000000000) (hq : d.tdiv 1000000000 = q) (hr : d.tmod 1000000000 = r) (w : World) :
    Calls Yba.prog 11 #[.agg #[.int .u64 0, .int .i64 0, .pointer none], .int .i64 d] w fun e w' => e = .returned (.agg #[.int .u64 r, .int .i64 q, .pointer none]) ∧ Below w.heap.size w w' := by
  have k1 := andNot_zero_mask
  have k2 := or_zero r hr0 (by omega)
  have k3 := and_mono r hr0 (by omega)
  go_enter Yba.func11, Yba.ntmps11
  go_wp2_with fail
  refine (nsec0 _ _ _ (by simp [go_sem])).mono ?_
  rintro e w' ⟨rfl, rfl⟩
  go_wp2_with fail
  refine (addSec0 _ _ r q _ hr0 hr1 (by omega) (by omega) (by simp [go_sem]) (by simp [go_sem]) (by simp [go_sem])).mono ?_
  rintro e w' ⟨rfl, rfl⟩
  go_wp2
  refine bodyPost_ret (v := .agg #[.int .u64 r, .int .i64 q, .pointer none]) (by simp [results, Yba.results11, go_sem]) rfl ⟨rfl, ?_⟩
  exact (((Below.refl _ _).alloc (Nat.le_refl _) _).alloc (by simp) _)

theorem add_neg (d q r : Int) (hq0 : -9223372036 ≤ q) (hq1 : q ≤ 9223372036) (hr0 : r < 0) (hr1 : -1000000000 < r) (hq : d.tdiv 1000000000 = q) (hr : d.tmod 1000000000 = r) (w : World) :
    Calls Yba.prog 11 #[.agg #[.int .u64 0, .int .i64 0, .pointer none], .int .i64 d] w fun e w' => e = .returned (.agg #[.int .u64 (r + 1000000000), .int .i64 (q - 1), .pointer none]) ∧ Below w.heap.size w w' := by
  have k1 := andNot_zero_mask
  have k2 := or_zero (r + 1000000000) (by omega) (by omega)
  have k3 := and_mono (r + 1000000000) (by omega) (by omega)
  go_enter Yba.func11, Yba.ntmps11
  go_wp2_with fail
  refine (nsec0 _ _ _ (by simp [go_sem])).mono ?_
  rintro e w' ⟨rfl, rfl⟩
  go_wp2_with fail
  refine (addSec0 _ _ (r + 1000000000) (q - 1) _ (by omega) (by omega) (by omega) (by omega) (by simp [go_sem]) (by simp [go_sem]) (by simp [go_sem])).mono ?_
  rintro e w' ⟨rfl, rfl⟩
  go_wp2
  refine bodyPost_ret (v := .agg #[.int .u64 (r + 1000000000), .int .i64 (q - 1), .pointer none]) (by simp [results, Yba.results11, go_sem]) rfl ⟨rfl, ?_⟩
  exact (((Below.refl _ _).alloc (Nat.le_refl _) _).alloc (by simp) _)

/-- time.Time{}.Add(d): the seconds rounded down, and what is left. -/
theorem add_any (d : Int) (h0 : -9223372036854775808 ≤ d) (h1 : d ≤ 9223372036854775807) (w : World) :
    Calls Yba.prog 11 #[.agg #[.int .u64 0, .int .i64 0, .pointer none], .int .i64 d] w fun e w' => e = .returned (.agg #[.int .u64 (d % 1000000000), .int .i64 (d / 1000000000), .pointer none]) ∧ Below w.heap.size w w' := by
  by_cases hd : 0 ≤ d
  · obtain ⟨e1, e2⟩ := td_nonneg d hd
    exact add_at d _ _ (by omega) (by omega) (by omega) (by omega) e1 e2 w
  · obtain ⟨e1, e2⟩ := td_neg d (by omega)
    by_cases hr : (-d) % 1000000000 = 0
    · have := add_at d (- ((-d) / 1000000000)) (- ((-d) % 1000000000)) (by omega) (by omega) (by omega) (by omega) e1 e2 w
      rw [show d % 1000000000 = - ((-d) % 1000000000) by omega, show d / 1000000000 = - ((-d) / 1000000000) by omega]
      exact this
    · have := add_neg d (- ((-d) / 1000000000)) (- ((-d) % 1000000000)) (by omega) (by omega) (by omega) (by omega) e1 e2 w
      rw [show d % 1000000000 = - ((-d) % 1000000000) + 1000000000 by omega, show d / 1000000000 = - ((-d) / 1000000000) - 1 by omega]
      exact this

/-- (time.Time).IsZero. -/
theorem isZero_any (q r : Int) (l : Value) (w : World) : Calls Yba.prog 20 #[.agg #[.int .u64 r, .int .i64 q, l]] w fun e w' => e = .returned (.bool (r == 0 && q == 0)) ∧ Below w.heap.size w w' := by
  cases h1 : (r == 0) <;> cases h2 : (q == 0)
  all_goals
    go_enter Yba.func20, Yba.ntmps20
    go_wp2
    go_ret
    exact ⟨rfl, ((Below.refl _ _).alloc (Nat.le_refl _) _)⟩

theorem isZero_yes (w : World) : Calls Yba.prog 20 #[.agg #[.int .u64 (0 % 1000000000), .int .i64 (0 / 1000000000), .pointer none]] w fun e w' => e = .returned (.bool true) ∧ Below w.heap.size w w' := by
  have h := isZero_any (0 / 1000000000) (0 % 1000000000) (.pointer none) w
  exact h
theorem isZero_no (s : Int) (hs : s ≠ 0) (w : World) : Calls Yba.prog 20 #[.agg #[.int .u64 (s % 1000000000), .int .i64 (s / 1000000000), .pointer none]] w fun e w' => e = .returned (.bool false) ∧ Below w.heap.size w w' := by
  have h := isZero_any (s / 1000000000) (s % 1000000000) (.pointer none) w
  have e : (s % 1000000000 == 0 && s / 1000000000 == 0) = false := by
    rw [Bool.and_eq_false_iff]
    by_cases h : s % 1000000000 = 0
    · right; rw [beq_eq_false_iff_ne]; omega
    · left; rw [beq_eq_false_iff_ne]; exact h
  rw [e] at h
  exact h

theorem bcell {W w1 : World} (hb : Below W.heap.size W w1) : (∀ b o, b < W.heap.size → w1.cell? ⟨b, o, none⟩ = W.cell? ⟨b, o, none⟩) ∧ (∀ b o, b < W.heap.size → w1.frozen? ⟨b, o, none⟩ = W.frozen? ⟨b, o, none⟩) :=
  ⟨fun b o h => hb.cell (p := ⟨b, o, none⟩) h, fun b o h => hb.frozen (p := ⟨b, o, none⟩) h⟩

/-- (*Contract).HasFlight. -/
theorem hasFlight_any (b o : Nat) (s e : Int) (w : World)
    (c3 : w.cell? ⟨b, o + 3, none⟩ = some (.int .u64 (s % 1000000000))) (c4 : w.cell? ⟨b, o + 4, none⟩ = some (.int .i64 (s / 1000000000))) (c5 : w.cell? ⟨b, o + 5, none⟩ = some (.pointer none))
    (c6 : w.cell? ⟨b, o + 6, none⟩ = some (.int .u64 (e % 1000000000))) (c7 : w.cell? ⟨b, o + 7, none⟩ = some (.int .i64 (e / 1000000000))) (c8 : w.cell? ⟨b, o + 8, none⟩ = some (.pointer none)) (hb : b < w.heap.size) :
    Calls Yba.prog 12 #[.pointer (some ⟨b, o, none⟩)] w fun x w' => x = .returned (.bool (decide (s ≠ 0 ∨ e ≠ 0))) ∧ Below w.heap.size w w' := by
  by_cases hs : s = 0
  · subst hs
    go_enter Yba.func12, Yba.ntmps12
    go_wp2_with fail
    refine (isZero_yes _).mono ?_
    rintro x w1 ⟨rfl, hb1⟩
    obtain ⟨hc, hf⟩ := bcell hb1
    by_cases he : e = 0
    · subst he
      go_wp2_with fail
      refine (isZero_yes _).mono ?_
      rintro x w2 ⟨rfl, hb2⟩
      go_wp2
      go_ret
      exact ⟨rfl, hb1.trans (hb2.mono hb1.size)⟩
    · have Hd : Hid (decide ((0 : Int) ≠ 0 ∨ e ≠ 0) = true) := by show _ = true; simp [he]
      have He : Hid (e ≠ 0) := he
      clear he
      go_wp2_with fail
      refine (isZero_no e He.out _).mono ?_
      rintro x w2 ⟨rfl, hb2⟩
      go_wp2
      go_ret
      exact ⟨by rw [Hd.out]; rfl, hb1.trans (hb2.mono hb1.size)⟩
  · have Hd : Hid (decide (s ≠ 0 ∨ e ≠ 0) = true) := by show _ = true; simp [hs]
    have Hs : Hid (s ≠ 0) := hs
    clear hs
    go_enter Yba.func12, Yba.ntmps12
    go_wp2_with fail
    refine (isZero_no s Hs.out _).mono ?_
    rintro x w1 ⟨rfl, hb1⟩
    go_wp2
    go_ret
    exact ⟨by rw [Hd.out]; rfl, hb1⟩
end Go.Proofs.Ybulkcela
