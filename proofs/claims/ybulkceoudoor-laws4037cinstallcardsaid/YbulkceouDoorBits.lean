/-
  LawS4037CInstall: the members of a set of bits, in order: no Go in sight (seat b4037aD).
-/
import Derived.Lib.TrailingZeros
namespace Go.Proofs.YbulkceouDoor

/-- The members of a word, in ascending order. -/
def mem (x : Nat) : List Nat := (List.range 64).filter (fun i => x.testBit i)

theorem filter_none (p : Nat → Bool) (n : Nat) (h : ∀ i, i < n → p i = false) : (List.range n).filter p = [] := by
  rw [List.filter_eq_nil_iff]
  intro a ha
  rw [h a (List.mem_range.1 ha)]
  simp

theorem filter_first (p q : Nat → Bool) (k : Nat) (hlo : ∀ i, i < k → p i = false) (hk : p k = true) (qlo : ∀ i, i < k → q i = false) (qk : q k = false) (hhi : ∀ i, k < i → p i = q i) :
    ∀ n, k < n → (List.range n).filter p = k :: (List.range n).filter q := by
  intro n
  induction n with
  | zero => intro h; exact absurd h (Nat.not_lt_zero _)
  | succ n ih =>
    intro h
    rw [List.range_succ, List.filter_append, List.filter_append]
    by_cases e : k = n
    · subst e
      rw [filter_none p k hlo, filter_none q k qlo]
      simp [hk, qk]
    · rw [ih (by omega)]
      have : List.filter p [n] = List.filter q [n] := by
        simp only [List.filter_cons, List.filter_nil, hhi n (by omega)]
      rw [this]; rfl

theorem filter_at (p : Nat → Bool) (k : Nat) (hk : p k = true) : ∀ n, k < n → ((List.range n).filter p)[((List.range k).filter p).length]? = some k := by
  intro n
  induction n with
  | zero => intro h; exact absurd h (Nat.not_lt_zero _)
  | succ n ih =>
    intro h
    rw [List.range_succ, List.filter_append]
    by_cases e : k = n
    · subst e
      simp [hk]
    · have := ih (by omega)
      rw [List.getElem?_append_left (List.getElem?_eq_some_iff.1 this).1, this]

theorem filter_upto (p : Nat → Bool) (n : Nat) (h : ∀ i, n ≤ i → p i = false) : ∀ m, n ≤ m → (List.range m).filter p = (List.range n).filter p := by
  intro m
  induction m with
  | zero => intro hm; obtain rfl : n = 0 := by omega
            rfl
  | succ m ih =>
    intro hm
    by_cases e : n = m + 1
    · rw [e]
    · rw [List.range_succ, List.filter_append, ih (by omega)]
      simp [h m (by omega)]

theorem low_parts (k m i : Nat) : (2 ^ k * (2 * m + 1)).testBit i = if i < k then false else if i = k then true else m.testBit (i - k - 1) := by
  rw [Nat.testBit_two_pow_mul]
  by_cases h : i < k
  · simp [h, Nat.not_le.2 h]
  · rw [if_neg h]
    by_cases e : i = k
    · subst e; simp
    · rw [if_neg e]
      have h1 : i - k = (i - k - 1) + 1 := by omega
      rw [h1, Nat.testBit_succ]
      have h2 : (2 * m + 1) / 2 = m := by omega
      rw [h2]
      simp
      omega

theorem clear_low (k m : Nat) : (2 ^ k * (2 * m + 1)) &&& (2 ^ k * (2 * m + 1) - 1) = 2 ^ (k + 1) * m := by
  have hp : 0 < 2 ^ k := Nat.two_pow_pos k
  have e : 2 ^ k * (2 * m + 1) - 1 = 2 ^ k * (2 * m) + (2 ^ k - 1) := by
    rw [Nat.mul_add]; omega
  refine Nat.eq_of_testBit_eq fun i => ?_
  rw [Nat.testBit_and, low_parts, e, Nat.testBit_two_pow_mul_add _ (by omega), Nat.testBit_two_pow_mul]
  by_cases h : i < k
  · have : ¬ (k + 1 ≤ i) := by omega
    simp [h, this]
  · rw [if_neg h, if_neg h]
    by_cases e : i = k
    · subst e; simp; omega
    · rw [if_neg e]
      have h1 : i - k = (i - k - 1) + 1 := by omega
      have h2 : k + 1 ≤ i := by omega
      rw [h1, Nat.testBit_succ]
      have h3 : (2 * m) / 2 = m := by omega
      rw [h3]
      simp [h2]
      rw [show i - (k + 1) = i - k - 1 by omega]

theorem mem_zero : mem 0 = [] := by unfold mem; exact filter_none _ _ (fun i _ => Nat.zero_testBit i)

theorem mem_step (x : Nat) (h0 : x ≠ 0) (h : x < 2 ^ 64) : mem x = Lib.ctz 64 x :: mem (x &&& (x - 1)) ∧ Lib.ctz 64 x < 64 := by
  obtain ⟨m, hm, hk⟩ := Lib.ctzFrom_spec 64 x (by omega) h
  have hc : Lib.ctz 64 x = Lib.ctzFrom 64 x := by unfold Lib.ctz; rw [if_neg h0]
  rw [hc]
  generalize Lib.ctzFrom 64 x = k at *
  subst hm
  rw [clear_low]
  refine ⟨?_, hk⟩
  unfold mem
  refine filter_first _ _ k ?_ ?_ ?_ ?_ ?_ 64 hk
  · intro i hi; rw [low_parts]; simp [hi]
  · rw [low_parts]; simp
  · intro i hi; rw [Nat.testBit_two_pow_mul]; simp; omega
  · rw [Nat.testBit_two_pow_mul]; simp; omega
  · intro i hi
    rw [low_parts, Nat.testBit_two_pow_mul, if_neg (by omega), if_neg (by omega)]
    have : k + 1 ≤ i := by omega
    simp [this]
    rw [show i - (k + 1) = i - k - 1 by omega]

theorem mem_lt (x i : Nat) (h : i ∈ mem x) : i < 64 := by
  unfold mem at h
  exact List.mem_range.1 (List.mem_filter.1 h).1

theorem mem_bit (x i : Nat) (h : i ∈ mem x) : x.testBit i = true := by
  unfold mem at h
  exact (List.mem_filter.1 h).2

theorem mem_length (x : Nat) : (mem x).length ≤ 64 := by
  unfold mem
  have := List.length_filter_le (fun i => x.testBit i) (List.range 64)
  simpa using this

/-- How many members lie below k. -/
def below (x k : Nat) : Nat := ((List.range k).filter (fun i => x.testBit i)).length

theorem below_zero (x : Nat) : below x 0 = 0 := rfl
theorem below_succ (x k : Nat) : below x (k + 1) = below x k + (if x.testBit k then 1 else 0) := by
  unfold below
  rw [List.range_succ, List.filter_append, List.length_append]
  by_cases h : x.testBit k = true <;> simp [h]
theorem mem_at (x k : Nat) (hk : k < 64) (h : x.testBit k = true) : (mem x)[below x k]? = some k := filter_at _ k h 64 hk
theorem below_all (x n : Nat) (hn : n ≤ 64) (h : x < 2 ^ n) : below x n = (mem x).length := by
  unfold below mem
  rw [filter_upto _ n (fun i hi => Nat.testBit_lt_two_pow (Nat.lt_of_lt_of_le h (Nat.pow_le_pow_right (by omega) hi))) 64 hn]
end Go.Proofs.YbulkceouDoor
