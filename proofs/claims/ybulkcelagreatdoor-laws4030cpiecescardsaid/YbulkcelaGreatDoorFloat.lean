/-
  THE FLOATS: whole numbers are exact; what is divided and multiplied is no NaN (seat b4030aZD). No Go in sight.
-/
import Derived.Laws.FloatArith
namespace Go.Proofs.YbulkcelaGreatDoor
open Ieee

theorem d_binade : double.binade = 4503599627370496 := by decide
theorem d_inf : double.infRung = 9218868437227405312 := by decide
theorem d_sign : double.signWeight = 9223372036854775808 := by decide
theorem d_least : double.leastPlace = -1074 := by decide
theorem d_frac : double.fractionBits = 52 := rfl

theorem word_mod (neg : Bool) (r : Nat) (h : r < 9223372036854775808) : (double.word neg r / double.signWeight % 2 == 1) = neg ∧ double.word neg r % double.signWeight = r := by
  unfold Format.word
  rw [d_sign]
  cases neg
  · simp; omega
  · simp; omega

theorem read_word (neg : Bool) (r : Nat) (h : r < 9223372036854775808) : double.read (double.word neg r) =
    if r < 4503599627370496 then .number neg r (-1074) else if r < 9218868437227405312 then .number neg (4503599627370496 + r % 4503599627370496) (-1074 + (r / 4503599627370496 - 1 : Nat)) else if r = 9218868437227405312 then .infinity neg else .nan neg (r - 9218868437227405312) := by
  obtain ⟨h1, h2⟩ := word_mod neg r h
  unfold Format.read
  simp only [h1, h2, d_binade, d_inf, d_least]

/-- A whole significand at its place. -/
def at53 (neg : Bool) (K : Nat) (e : Int) : Nat := double.word neg ((e + 1074).toNat * 4503599627370496 + K)

theorem read_at (neg : Bool) (K : Nat) (e : Int) (h0 : 4503599627370496 ≤ K) (h1 : K < 9007199254740992) (e0 : -1074 ≤ e) (e1 : e ≤ 900) : double.read (at53 neg K e) = .number neg K e := by
  obtain ⟨t, ht⟩ : ∃ t : Nat, (e + 1074).toNat = t := ⟨_, rfl⟩
  have ht1 : t ≤ 1974 := by omega
  unfold at53
  rw [ht, read_word _ _ (by omega), if_neg (by omega), if_pos (by omega)]
  have hd : (t * 4503599627370496 + K) / 4503599627370496 = t + 1 := by omega
  have hm : (t * 4503599627370496 + K) % 4503599627370496 = K - 4503599627370496 := by omega
  rw [hd, hm, show 4503599627370496 + (K - 4503599627370496) = K by omega, show (-1074 + ((t + 1 - 1 : Nat) : Int)) = e by omega]

theorem log2_shift (K j : Nat) (h : K ≠ 0) : (K * 2 ^ j).log2 = K.log2 + j := by
  have h2 : K * 2 ^ j ≠ 0 := Nat.mul_ne_zero h (by have := Nat.two_pow_pos j; omega)
  have a := Nat.log2_self_le h
  have b := Nat.lt_log2_self (n := K)
  have hp := Nat.two_pow_pos j
  have l1 : 2 ^ (K.log2 + j) ≤ K * 2 ^ j := by rw [Nat.pow_add]; exact Nat.mul_le_mul_right _ a
  have l2 : K * 2 ^ j < 2 ^ (K.log2 + j + 1) := by
    rw [show K.log2 + j + 1 = (K.log2 + 1) + j by omega, Nat.pow_add]
    exact Nat.mul_lt_mul_of_pos_right b hp
  have c1 : K.log2 + j ≤ (K * 2 ^ j).log2 := (Nat.le_log2 h2).2 l1
  have c2 : (K * 2 ^ j).log2 < K.log2 + j + 1 := (Nat.log2_lt h2).2 l2
  omega

theorem log2_53 (K : Nat) (h0 : 4503599627370496 ≤ K) (h1 : K < 9007199254740992) : K.log2 = 52 := by
  have hK : K ≠ 0 := by omega
  have c1 : 52 ≤ K.log2 := (Nat.le_log2 hK).2 (by omega)
  have c2 : K.log2 < 53 := (Nat.log2_lt hK).2 (by omega)
  omega

theorem cut_exact (neg : Bool) (K j : Nat) (h0 : 0 < K) : Toward.even.cut neg (K * 2 ^ j) j = K := by
  unfold Toward.cut
  have hl : j ≤ (K * 2 ^ j).log2 + 2 := by rw [log2_shift K j (by omega)]; omega
  rw [Nat.min_eq_left hl]
  have hg : 1 <<< j = 2 ^ j := by rw [Nat.shiftLeft_eq, Nat.one_mul]
  have hp := Nat.two_pow_pos j
  simp only [hg]
  rw [Nat.mul_div_cancel _ hp, Nat.mul_mod_left]
  have e1 : decide (2 ^ j < 2 * 0) = false := by simp
  have e2 : (2 ^ j == 2 * 0) = false := by rw [beq_eq_false_iff_ne]; omega
  rw [e1, e2]
  simp

/-- More digits than are wanted, all noughts. -/
theorem nearest_more (neg : Bool) (K j : Nat) (e : Int) (h0 : 4503599627370496 ≤ K) (h1 : K < 9007199254740992) (e0 : -1074 ≤ e) (e1 : e ≤ 900) : double.nearest neg (K * 2 ^ j) (e - j) = at53 neg K e := by
  have hK : K ≠ 0 := by omega
  have hne : K * 2 ^ j ≠ 0 := Nat.mul_ne_zero hK (by have := Nat.two_pow_pos j; omega)
  unfold Format.nearest
  rw [if_neg hne, log2_shift K j hK, log2_53 K h0 h1, d_frac, d_least, d_binade, d_inf]
  have hmax : max (e - (j : Int) + ((52 + j : Nat) : Int) - ((52 : Nat) : Int)) (-1074) = e := by omega
  simp only [hmax]
  have a1 : (e - (j : Int) - e).toNat = 0 := by omega
  have a2 : (e - (e - (j : Int))).toNat = j := by omega
  rw [a1, a2, Nat.shiftLeft_zero, cut_exact neg K j (by omega)]
  unfold at53
  rw [show (e - -1074) = e + 1074 by omega, Nat.min_eq_left (by omega)]

/-- Fewer digits. -/
theorem nearest_less (neg : Bool) (m j : Nat) (e : Int) (h0 : 4503599627370496 ≤ m * 2 ^ j) (h1 : m * 2 ^ j < 9007199254740992) (e0 : -1074 ≤ e) (e1 : e ≤ 900) : double.nearest neg m (e + j) = at53 neg (m * 2 ^ j) e := by
  have hm : m ≠ 0 := fun h => by rw [h, Nat.zero_mul] at h0; omega
  have hl := log2_shift m j hm
  rw [log2_53 _ h0 h1] at hl
  unfold Format.nearest
  rw [if_neg hm, d_frac, d_least, d_binade, d_inf]
  have hmax : max (e + (j : Int) + (m.log2 : Int) - ((52 : Nat) : Int)) (-1074) = e := by omega
  simp only [hmax]
  have a1 : (e + (j : Int) - e).toNat = j := by omega
  have a2 : (e - (e + (j : Int))).toNat = 0 := by omega
  rw [a1, a2, Nat.shiftLeft_eq]
  have hc := cut_exact neg (m * 2 ^ j) 0 (by omega)
  rw [Nat.pow_zero, Nat.mul_one] at hc
  rw [hc]
  unfold at53
  rw [show (e - -1074) = e + 1074 by omega, Nat.min_eq_left (by omega)]

/-- float64(n). -/
def fi (n : Int) : Nat := floatOfInt .f64 n
theorem fi_zero : fi 0 = 0 := by decide

theorem norm_of (m : Nat) (h0 : 0 < m) (h1 : m < 9007199254740992) : ∃ j, j ≤ 52 ∧ 4503599627370496 ≤ m * 2 ^ j ∧ m * 2 ^ j < 9007199254740992 := by
  have hm : m ≠ 0 := by omega
  have a := Nat.log2_self_le hm
  have b := Nat.lt_log2_self (n := m)
  have c : m.log2 < 53 := (Nat.log2_lt hm).2 (by omega)
  refine ⟨52 - m.log2, by omega, ?_, ?_⟩
  · have : 2 ^ m.log2 * 2 ^ (52 - m.log2) ≤ m * 2 ^ (52 - m.log2) := Nat.mul_le_mul_right _ a
    rw [← Nat.pow_add, show m.log2 + (52 - m.log2) = 52 by omega] at this
    omega
  · have : m * 2 ^ (52 - m.log2) < 2 ^ (m.log2 + 1) * 2 ^ (52 - m.log2) := Nat.mul_lt_mul_of_pos_right b (Nat.two_pow_pos _)
    rw [← Nat.pow_add, show m.log2 + 1 + (52 - m.log2) = 53 by omega] at this
    omega

theorem fi_norm (n : Int) (hn : n ≠ 0) (hb : n.natAbs < 9007199254740992) : ∃ j : Nat, j ≤ 52 ∧ 4503599627370496 ≤ n.natAbs * 2 ^ j ∧ n.natAbs * 2 ^ j < 9007199254740992 ∧ fi n = at53 (decide (n < 0)) (n.natAbs * 2 ^ j) (-(j : Int)) := by
  obtain ⟨j, h1, h2, h3⟩ := norm_of n.natAbs (by omega) hb
  refine ⟨j, h1, h2, h3, ?_⟩
  have := nearest_less (decide (n < 0)) n.natAbs j (-(j : Int)) h2 h3 (by omega) (by omega)
  rw [show -(j : Int) + (j : Int) = 0 by omega] at this
  exact this

/-- What a whole number's word stands for. -/
theorem fi_read (n : Int) (hb : n.natAbs < 9007199254740992) : ∃ (K : Nat) (e : Int), double.read (fi n) = .number (decide (n < 0)) K e ∧ -1074 ≤ e ∧ e ≤ 0 ∧ ∀ base : Int, base ≤ e → signed (decide (n < 0)) K (e - base).toNat = n * 2 ^ (-base).toNat := by
  by_cases hn : n = 0
  · subst hn
    refine ⟨0, -1074, ?_, by omega, by omega, fun base _ => ?_⟩
    · rw [fi_zero]
      have := read_word false 0 (by omega)
      rw [if_pos (by omega)] at this
      exact this
    · unfold signed; simp
  · obtain ⟨j, h1, h2, h3, h4⟩ := fi_norm n hn hb
    refine ⟨n.natAbs * 2 ^ j, -(j : Int), ?_, by omega, by omega, fun base hbs => ?_⟩
    · rw [h4]; exact read_at _ _ _ h2 h3 (by omega) (by omega)
    · have e1 : (n.natAbs * 2 ^ j) <<< (-(j : Int) - base).toNat = n.natAbs * 2 ^ (-base).toNat := by
        rw [Nat.shiftLeft_eq, Nat.mul_assoc, ← Nat.pow_add, show j + (-(j : Int) - base).toNat = (-base).toNat by omega]
      unfold signed
      rw [e1]
      by_cases hneg : n < 0
      · simp only [hneg, decide_true, if_true]
        rw [Int.natCast_mul, show ((n.natAbs : Nat) : Int) = -n by omega]
        simp [Int.neg_mul, Int.neg_neg]
      · simp only [hneg, decide_false]
        rw [Int.natCast_mul, show ((n.natAbs : Nat) : Int) = n by omega]
        simp

theorem fi_nearest (n : Int) (t : Nat) (hn : n ≠ 0) (hb : n.natAbs < 9007199254740992) : double.nearest (decide (n < 0)) (n.natAbs * 2 ^ t) (-(t : Int)) = fi n := by
  obtain ⟨j, h1, h2, h3, h4⟩ := fi_norm n hn hb
  rw [h4]
  by_cases hc : j ≤ t
  · have := nearest_more (decide (n < 0)) (n.natAbs * 2 ^ j) (t - j) (-(j : Int)) h2 h3 (by omega) (by omega)
    rw [Nat.mul_assoc, ← Nat.pow_add, show j + (t - j) = t by omega, show (-(j : Int) - ((t - j : Nat) : Int)) = -(t : Int) by omega] at this
    exact this
  · have := nearest_less (decide (n < 0)) (n.natAbs * 2 ^ t) (j - t) (-(j : Int)) (by rw [Nat.mul_assoc, ← Nat.pow_add, show t + (j - t) = j by omega]; exact h2) (by rw [Nat.mul_assoc, ← Nat.pow_add, show t + (j - t) = j by omega]; exact h3) (by omega) (by omega)
    rw [Nat.mul_assoc, ← Nat.pow_add, show t + (j - t) = j by omega, show (-(j : Int) + ((j - t : Nat) : Int)) = -(t : Int) by omega] at this
    exact this

/-- THE SUM OF WHOLE NUMBERS IS EXACT. -/
theorem fi_add (a b : Int) (ha : a.natAbs < 2251799813685248) (hb : b.natAbs < 2251799813685248) : floatBits .add .f64 (fi a) (fi b) = some (fi (a + b)) := by
  obtain ⟨K1, e1, r1, l1, u1, s1⟩ := fi_read a (by omega)
  obtain ⟨K2, e2, r2, l2, u2, s2⟩ := fi_read b (by omega)
  show double.add (fi a) (fi b) = _
  unfold Format.add
  rw [r1, r2]
  simp only [Datum.sum, Option.map_some]
  have q1 := s1 (min e1 e2) (by omega)
  have q2 := s2 (min e1 e2) (by omega)
  simp only [q1, q2]
  obtain ⟨t, ht⟩ : ∃ t : Nat, (-(min e1 e2)).toNat = t := ⟨_, rfl⟩
  have ht2 : min e1 e2 = -(t : Int) := by omega
  rw [ht, ht2, ← Int.add_mul]
  have hp : (0 : Int) < 2 ^ t := by have := Nat.two_pow_pos t; exact_mod_cast this
  by_cases h0 : a + b = 0
  · rw [h0, Int.zero_mul, fi_zero, if_pos rfl]
    have hs : (decide (a < 0) && decide (b < 0)) = false := by
      by_cases h : a < 0
      · have : ¬ b < 0 := by omega
        simp [this]
      · simp [h]
    rw [hs]
    simp only [Format.write, Format.nearest, Int.natAbs_zero, if_true]
    rfl
  · have hne : (a + b) * 2 ^ t ≠ 0 := Int.mul_ne_zero h0 (by omega)
    rw [if_neg hne]
    have hsg : decide ((a + b) * 2 ^ t < 0) = decide (a + b < 0) := by
      by_cases h : a + b < 0
      · have : (a + b) * 2 ^ t < 0 := Int.mul_neg_of_neg_of_pos h hp
        simp [h, this]
      · have : ¬ (a + b) * 2 ^ t < 0 := by
          have := Int.mul_nonneg (show 0 ≤ a + b by omega) (Int.le_of_lt hp)
          omega
        simp [h, this]
    have hab : ((a + b) * 2 ^ t).natAbs = (a + b).natAbs * 2 ^ t := by
      rw [Int.natAbs_mul]
      congr 1
    rw [hsg, hab]
    exact congrArg some (fi_nearest (a + b) t h0 (by omega))

theorem fi_quo0 : floatBits .quo .f64 (fi 0) 4741671816366391296 = some 0 := by decide +kernel
theorem fi_add0 (a : Int) (ha : a.natAbs < 2251799813685248) : floatBits .add .f64 (fi a) 0 = some (fi a) := by
  have h := fi_add a 0 ha (by decide)
  rwa [fi_zero, Int.add_zero] at h

theorem read_num (r : Nat) (h : r < 9218868437227405312) : ∃ s m e, double.read r = .number s m e := by
  have hr : double.word false r = r := rfl
  have h2 := read_word false r (by omega)
  rw [hr] at h2
  by_cases h3 : r < 4503599627370496
  · rw [if_pos h3] at h2; exact ⟨_, _, _, h2⟩
  · rw [if_neg h3, if_pos h] at h2; exact ⟨_, _, _, h2⟩

/-- A share is a number. -/
theorem fi_quo (a b : Int) (a0 : 0 < a) (a1 : a ≤ 1000000) (b0 : 0 < b) (b1 : b ≤ 1000000) : ∃ r, floatBits .quo .f64 (fi a) (fi b) = some r ∧ ∃ s m e, double.read r = .number s m e := by
  obtain ⟨j1, p1, q1, r1, f1⟩ := fi_norm a (by omega) (by omega)
  obtain ⟨j2, p2, q2, r2, f2⟩ := fi_norm b (by omega) (by omega)
  have g1 := read_at (decide (a < 0)) _ (-(j1 : Int)) q1 r1 (by omega) (by omega)
  have g2 := read_at (decide (b < 0)) _ (-(j2 : Int)) q2 r2 (by omega) (by omega)
  rw [← f1] at g1
  rw [← f2] at g2
  show ∃ r, double.div (fi a) (fi b) = some r ∧ _
  unfold Format.div
  rw [g1, g2]
  obtain ⟨K1, h1⟩ : ∃ K, a.natAbs * 2 ^ j1 = K := ⟨_, rfl⟩
  obtain ⟨K2, h2⟩ : ∃ K, b.natAbs * 2 ^ j2 = K := ⟨_, rfl⟩
  rw [h1] at q1 r1 ⊢
  rw [h2] at q2 r2 ⊢
  rw [decide_eq_false (show ¬ a < 0 by omega), decide_eq_false (show ¬ b < 0 by omega)]
  simp only [Datum.quotient]
  rw [if_neg (by omega), log2_53 K1 q1 r1, log2_53 K2 q2 r2, d_frac]
  simp only [Option.map_some]
  refine ⟨_, rfl, ?_⟩
  obtain ⟨M, hM⟩ : ∃ M, 2 * (K1 <<< (52 + 2 + 52 - 52) / K2) + (K1 <<< (52 + 2 + 52 - 52) % K2 != 0).toNat = M := ⟨_, rfl⟩
  rw [hM]
  have hsh : K1 <<< (52 + 2 + 52 - 52) = K1 * 18014398509481984 := by rw [Nat.shiftLeft_eq]
  rw [hsh] at hM
  have hbit : (K1 * 18014398509481984 % K2 != 0).toNat ≤ 1 := by cases (K1 * 18014398509481984 % K2 != 0) <;> simp
  have hq1 : K1 * 18014398509481984 / K2 ≤ 36028797018963968 := by
    refine Nat.div_le_of_le_mul ?_
    have : K1 ≤ 2 * K2 := by omega
    calc K1 * 18014398509481984 ≤ (2 * K2) * 18014398509481984 := Nat.mul_le_mul_right _ this
      _ = K2 * 36028797018963968 := by rw [Nat.mul_comm 2 K2, Nat.mul_assoc]
  have hq0 : 9007199254740992 ≤ K1 * 18014398509481984 / K2 := by
    rw [Nat.le_div_iff_mul_le (by omega)]
    have : K2 ≤ 2 * K1 := by omega
    calc 9007199254740992 * K2 ≤ 9007199254740992 * (2 * K1) := Nat.mul_le_mul_left _ this
      _ = K1 * 18014398509481984 := by rw [← Nat.mul_assoc, Nat.mul_comm]
  have M0 : 18014398509481984 ≤ M := by omega
  have M1 : M ≤ 72057594037927937 := by omega
  have hMne : M ≠ 0 := by omega
  have L0 : 54 ≤ M.log2 := (Nat.le_log2 hMne).2 (by omega)
  have L1 : M.log2 < 57 := (Nat.log2_lt hMne).2 (by omega)
  obtain ⟨pl, hpl⟩ : ∃ pl : Int, -(j1 : Int) - -(j2 : Int) - ((52 + 2 + 52 - 52 : Nat) : Int) - 1 = pl := ⟨_, rfl⟩
  rw [hpl]
  have pl0 : -110 ≤ pl := by omega
  have pl1 : pl ≤ 0 := by omega
  simp only [Format.write, Bool.xor_self, Format.nearest]
  rw [if_neg hMne, d_frac, d_least, d_binade, d_inf]
  obtain ⟨la, hla⟩ : ∃ la : Int, max (pl + (M.log2 : Int) - ((52 : Nat) : Int)) (-1074) = la := ⟨_, rfl⟩
  simp only [hla]
  have hz : (pl - la).toNat = 0 := by omega
  rw [hz, Nat.shiftLeft_zero]
  have hcut : Toward.even.cut false M (la - pl).toNat ≤ M + 1 := by
    unfold Toward.cut
    simp only
    refine Nat.add_le_add (Nat.div_le_self _ _) ?_
    generalize (decide (1 <<< min (la - pl).toNat (M.log2 + 2) < 2 * (M % 1 <<< min (la - pl).toNat (M.log2 + 2))) || (1 <<< min (la - pl).toNat (M.log2 + 2) == 2 * (M % 1 <<< min (la - pl).toNat (M.log2 + 2)) && M / 1 <<< min (la - pl).toNat (M.log2 + 2) % 2 == 1)) = bb
    cases bb <;> simp
  generalize Toward.even.cut false M (la - pl).toNat = ct at hcut
  have hlt : (la - -1074).toNat * 4503599627370496 + ct < 9218868437227405312 := by
    have : (la - -1074).toNat ≤ 1078 := by omega
    omega
  rw [Nat.min_eq_left (by omega)]
  exact read_num _ hlt

/-- What is written is no NaN. -/
theorem order_nearest (neg : Bool) (m : Nat) (e : Int) : double.order (double.nearest neg m e) (double.nearest neg m e) = some .eq := by
  have hw : ∃ r, r ≤ 9218868437227405312 ∧ double.nearest neg m e = double.word neg r := by
    unfold Format.nearest
    by_cases h : m = 0
    · rw [if_pos h]; exact ⟨0, by omega, rfl⟩
    · rw [if_neg h]; exact ⟨_, by rw [d_inf]; exact Nat.min_le_right _ _, rfl⟩
  obtain ⟨r, hr, h⟩ := hw
  rw [h]
  unfold Format.order
  rw [read_word neg r (by omega)]
  split
  · simp [Datum.order]
  · split
    · simp [Datum.order]
    · rw [if_pos (by omega)]
      simp [Datum.order]

/-- A count times a share: a word that equals itself. -/
theorem fi_mul (n : Int) (hn : n.natAbs < 9007199254740992) (x : Nat) (hx : ∃ s m e, double.read x = .number s m e) : ∃ r, floatBits .mul .f64 (fi n) x = some r ∧ FloatKind.f64.format.order r r = some .eq := by
  obtain ⟨K, e, h, _⟩ := fi_read n hn
  obtain ⟨s, m, e2, h2⟩ := hx
  show ∃ r, double.mul (fi n) x = some r ∧ double.order r r = _
  unfold Format.mul
  rw [h, h2]
  exact ⟨_, rfl, order_nearest _ _ _⟩
end Go.Proofs.YbulkcelaGreatDoor
