/-
  PLAIN MATHEMATICS FOR THE SEAT b4029a: the subtractive Euclid with a bound, one step at a time. No Go in sight.
-/
namespace Go.Proofs.Ybulkcekm

/-- The pair that is left, and the matrix that was gathered. -/
structure St where
  x : Int
  y : Int
  p : Int
  q : Int
  r : Int
  t : Int

/-- One subtraction; nothing where the two differ by at most B. -/
def step1 (B : Int) (s : St) : St :=
  if s.y ≤ s.x then (if s.x - s.y ≤ B then s else ⟨s.x - s.y, s.y, s.p, s.q + s.p, s.r, s.t + s.r⟩)
  else (if s.y - s.x ≤ B then s else ⟨s.x, s.y - s.x, s.p + s.q, s.q, s.r + s.t, s.t⟩)

def Stop (B : Int) (s : St) : Prop := s.x - s.y ≤ B ∧ s.y - s.x ≤ B

def it (B : Int) : Nat → St → St
  | 0, s => s
  | n + 1, s => step1 B (it B n s)

theorem stop_fix {B : Int} {s : St} (h : Stop B s) : step1 B s = s := by
  obtain ⟨h1, h2⟩ := h
  unfold step1
  by_cases c : s.y ≤ s.x
  · rw [if_pos c, if_pos h1]
  · rw [if_neg c, if_pos h2]

theorem it_stop {B : Int} {s : St} (h : Stop B s) (n : Nat) : it B n s = s := by
  induction n with
  | zero => rfl
  | succ n ih => show step1 B (it B n s) = s; rw [ih]; exact stop_fix h

theorem it_add (B : Int) (m n : Nat) (s : St) : it B (m + n) s = it B n (it B m s) := by
  induction n with
  | zero => rfl
  | succ n ih => show step1 B (it B (m + n) s) = step1 B (it B n (it B m s)); rw [ih]

theorem uniq_le {B : Int} {s : St} {m n : Nat} (h : m ≤ n) (hm : Stop B (it B m s)) : it B n s = it B m s := by
  obtain ⟨k, rfl⟩ := Nat.exists_eq_add_of_le h
  rw [it_add]; exact it_stop hm k

theorem uniq {B : Int} {s : St} {m n : Nat} (hm : Stop B (it B m s)) (hn : Stop B (it B n s)) : it B m s = it B n s := by
  rcases Nat.le_total m n with h | h
  · exact (uniq_le h hm).symm
  · exact uniq_le h hn

/-- k subtractions of y from x at once. -/
theorem many_x {B : Int} (hB : 0 ≤ B) (s : St) (k : Nat) (h : (k : Int) * s.y + B < s.x) (hy : 0 < s.y) :
    it B k s = ⟨s.x - k * s.y, s.y, s.p, s.q + k * s.p, s.r, s.t + k * s.r⟩ := by
  induction k with
  | zero => simp [it]
  | succ k ih =>
    have e : ((k + 1 : Nat) : Int) * s.y = (k : Int) * s.y + s.y := by rw [Int.natCast_add, Int.add_mul]; simp
    have e2 : ((k + 1 : Nat) : Int) * s.p = (k : Int) * s.p + s.p := by rw [Int.natCast_add, Int.add_mul]; simp
    have e3 : ((k + 1 : Nat) : Int) * s.r = (k : Int) * s.r + s.r := by rw [Int.natCast_add, Int.add_mul]; simp
    rw [e] at h
    show step1 B (it B k s) = _
    rw [ih (by omega), e, e2, e3]
    unfold step1
    dsimp only
    rw [if_pos (by omega), if_neg (by omega)]
    congr 1 <;> omega

/-- k subtractions of x from y at once. -/
theorem many_y {B : Int} (hB : 0 ≤ B) (s : St) (k : Nat) (h : (k : Int) * s.x + B < s.y) (hx : 0 < s.x) :
    it B k s = ⟨s.x, s.y - k * s.x, s.p + k * s.q, s.q, s.r + k * s.t, s.t⟩ := by
  induction k with
  | zero => simp [it]
  | succ k ih =>
    have e : ((k + 1 : Nat) : Int) * s.x = (k : Int) * s.x + s.x := by rw [Int.natCast_add, Int.add_mul]; simp
    have e2 : ((k + 1 : Nat) : Int) * s.q = (k : Int) * s.q + s.q := by rw [Int.natCast_add, Int.add_mul]; simp
    have e3 : ((k + 1 : Nat) : Int) * s.t = (k : Int) * s.t + s.t := by rw [Int.natCast_add, Int.add_mul]; simp
    rw [e] at h
    show step1 B (it B k s) = _
    rw [ih (by omega), e, e2, e3]
    unfold step1
    dsimp only
    rw [if_neg (by omega), if_neg (by omega)]
    congr 1 <;> omega

/-- What holds of the pair and the matrix at every step. -/
structure Inv (a b B : Int) (s : St) : Prop where
  hx : B < s.x
  hy : B < s.y
  p0 : 0 ≤ s.p
  q0 : 0 ≤ s.q
  r0 : 0 ≤ s.r
  t0 : 0 ≤ s.t
  ea : s.p * s.x + s.q * s.y = a
  eb : s.r * s.x + s.t * s.y = b
  det : s.p * s.t - s.q * s.r = 1

theorem Inv.step {a b B : Int} {s : St} (h : Inv a b B s) : Inv a b B (step1 B s) := by
  obtain ⟨hx, hy, p0, q0, r0, t0, ea, eb, det⟩ := h
  unfold step1
  split
  · split
    · exact ⟨hx, hy, p0, q0, r0, t0, ea, eb, det⟩
    · refine ⟨?_, hy, p0, ?_, r0, ?_, ?_, ?_, ?_⟩ <;> dsimp only
      · omega
      · omega
      · omega
      · rw [← ea, Int.mul_sub, Int.add_mul]; omega
      · rw [← eb, Int.mul_sub, Int.add_mul]; omega
      · rw [← det, Int.mul_add, Int.add_mul]; omega
  · split
    · exact ⟨hx, hy, p0, q0, r0, t0, ea, eb, det⟩
    · refine ⟨hx, ?_, ?_, q0, ?_, t0, ?_, ?_, ?_⟩ <;> dsimp only
      · omega
      · omega
      · omega
      · rw [← ea, Int.mul_sub, Int.add_mul]; omega
      · rw [← eb, Int.mul_sub, Int.add_mul]; omega
      · rw [← det, Int.mul_add, Int.add_mul, Int.mul_comm s.q s.t]; omega

theorem Inv.it {a b B : Int} {s : St} (h : Inv a b B s) (n : Nat) : Inv a b B (it B n s) := by
  induction n with
  | zero => exact h
  | succ n ih => exact ih.step

def st0 (a b : Int) : St := ⟨a, b, 1, 0, 0, 1⟩

theorem Inv.start {a b B : Int} (ha : B < a) (hb : B < b) : Inv a b B (st0 a b) :=
  ⟨ha, hb, by simp [st0], by simp [st0], by simp [st0], by simp [st0], by simp [st0], by simp [st0], by simp [st0]⟩

theorem mul_le_of_pos {u v : Int} (hu : 0 ≤ u) (hv : 1 ≤ v) : u ≤ u * v := by
  have := Int.mul_le_mul_of_nonneg_left hv hu
  omega

/-- The sizes that follow. -/
structure Sized (a b : Int) (s : St) : Prop where
  p1 : 1 ≤ s.p
  t1 : 1 ≤ s.t
  xa : s.x ≤ a
  yb : s.y ≤ b
  pa : s.p ≤ a
  qa : s.q ≤ a
  rb : s.r ≤ b
  tb : s.t ≤ b
  px : 0 ≤ s.p * s.x
  qy : 0 ≤ s.q * s.y
  rx : 0 ≤ s.r * s.x
  ty : 0 ≤ s.t * s.y

theorem Inv.sized {a b B : Int} (hB : 0 ≤ B) {s : St} (h : Inv a b B s) : Sized a b s := by
  obtain ⟨hx, hy, p0, q0, r0, t0, ea, eb, det⟩ := h
  have qr : 0 ≤ s.q * s.r := Int.mul_nonneg q0 r0
  have hp : 1 ≤ s.p := by
    rcases Int.lt_or_le 0 s.p with h | h
    · exact h
    · have : s.p = 0 := by omega
      rw [this, Int.zero_mul] at det; omega
  have ht : 1 ≤ s.t := by
    rcases Int.lt_or_le 0 s.t with h | h
    · exact h
    · have : s.t = 0 := by omega
      rw [this, Int.mul_zero] at det; omega
  have px := Int.mul_nonneg p0 (show 0 ≤ s.x by omega)
  have qy := Int.mul_nonneg q0 (show 0 ≤ s.y by omega)
  have rx := Int.mul_nonneg r0 (show 0 ≤ s.x by omega)
  have ty := Int.mul_nonneg t0 (show 0 ≤ s.y by omega)
  have k1 := mul_le_of_pos p0 (show 1 ≤ s.x by omega)
  have k2 := mul_le_of_pos q0 (show 1 ≤ s.y by omega)
  have k3 := mul_le_of_pos r0 (show 1 ≤ s.x by omega)
  have k4 := mul_le_of_pos t0 (show 1 ≤ s.y by omega)
  have k5 := mul_le_of_pos (show 0 ≤ s.x by omega) hp
  have k6 := mul_le_of_pos (show 0 ≤ s.y by omega) ht
  rw [Int.mul_comm s.x] at k5
  rw [Int.mul_comm s.y] at k6
  exact ⟨hp, ht, by omega, by omega, by omega, by omega, by omega, by omega, px, qy, rx, ty⟩

/-- The pair again, out of the matrix and the numbers. -/
theorem Inv.backx {a b B : Int} {s : St} (h : Inv a b B s) : s.t * a - s.q * b = s.x := by
  obtain ⟨_, _, _, _, _, _, ea, eb, det⟩ := h
  have e1 : s.t * (s.p * s.x) = (s.p * s.t) * s.x := by rw [← Int.mul_assoc, Int.mul_comm s.t]
  have e2 : s.t * (s.q * s.y) = s.q * (s.t * s.y) := by rw [← Int.mul_assoc, Int.mul_comm s.t, Int.mul_assoc]
  have e3 : s.q * (s.r * s.x) = (s.q * s.r) * s.x := by rw [← Int.mul_assoc]
  have e4 : (s.p * s.t) * s.x = (s.q * s.r) * s.x + s.x := by rw [show s.p * s.t = s.q * s.r + 1 by omega, Int.add_mul, Int.one_mul]
  rw [← ea, ← eb, Int.mul_add, Int.mul_add, e1, e2, e3, e4]; omega

theorem Inv.backy {a b B : Int} {s : St} (h : Inv a b B s) : s.p * b - s.r * a = s.y := by
  obtain ⟨_, _, _, _, _, _, ea, eb, det⟩ := h
  have e1 : s.p * (s.t * s.y) = (s.p * s.t) * s.y := by rw [← Int.mul_assoc]
  have e2 : s.p * (s.r * s.x) = s.r * (s.p * s.x) := by rw [← Int.mul_assoc, Int.mul_comm s.p, Int.mul_assoc]
  have e3 : s.r * (s.q * s.y) = (s.q * s.r) * s.y := by rw [← Int.mul_assoc, Int.mul_comm s.r]
  have e4 : (s.p * s.t) * s.y = (s.q * s.r) * s.y + s.y := by rw [show s.p * s.t = s.q * s.r + 1 by omega, Int.add_mul, Int.one_mul]
  rw [← ea, ← eb, Int.mul_add, Int.mul_add, e1, e2, e3, e4]; omega

/-- The sum falls at every step that is taken. -/
theorem step_falls {a b B : Int} (hB : 0 ≤ B) {s : St} (h : Inv a b B s) (hs : ¬ Stop B s) : (step1 B s).x + (step1 B s).y < s.x + s.y := by
  have hx := h.hx; have hy := h.hy
  unfold Stop at hs
  unfold step1
  split
  · rw [if_neg (by omega)]; dsimp only; omega
  · rw [if_neg (by omega)]; dsimp only; omega

/-- The Go round where x is the larger: k subtractions at once. -/
structure BigX (a b B : Int) (s : St) (k : Int) : Prop where
  k1 : 1 ≤ k
  reach : it B k.toNat s = ⟨s.x - k * s.y, s.y, s.p, s.q + k * s.p, s.r, s.t + k * s.r⟩
  inv : Inv a b B ⟨s.x - k * s.y, s.y, s.p, s.q + k * s.p, s.r, s.t + k * s.r⟩
  ky0 : 0 ≤ k * s.y
  ky1 : k * s.y < s.x
  kp0 : 0 ≤ k * s.p
  kp1 : s.q + k * s.p ≤ a
  kr0 : 0 ≤ k * s.r
  kr1 : s.t + k * s.r ≤ b
  falls : s.x - k * s.y < s.x

theorem big_x {a b B : Int} (hB : 0 ≤ B) {s : St} (h : Inv a b B s) (hd : B < s.x - s.y) : BigX a b B s ((s.x - B - 1) / s.y) := by
  have hx := h.hx; have hy := h.hy
  have hy0 : 0 < s.y := by omega
  have hm := Int.ediv_mul_le (s.x - B - 1) (show s.y ≠ 0 by omega)
  have hk : 1 ≤ (s.x - B - 1) / s.y := by
    rw [Int.le_ediv_iff_mul_le hy0]; omega
  generalize (s.x - B - 1) / s.y = k at hm hk
  obtain ⟨n, rfl⟩ := Int.eq_ofNat_of_zero_le (show 0 ≤ k by omega)
  have e := many_x hB s n (by omega) hy0
  have hi := h.it n
  rw [e] at hi
  have hz := hi.sized hB
  have ky := mul_le_of_pos (show 0 ≤ s.y by omega) hk
  rw [Int.mul_comm] at ky
  exact ⟨hk, e, hi, by omega, by omega, Int.mul_nonneg (by omega) h.p0, hz.qa, Int.mul_nonneg (by omega) h.r0, hz.tb, by omega⟩

structure BigY (a b B : Int) (s : St) (k : Int) : Prop where
  k1 : 1 ≤ k
  reach : it B k.toNat s = ⟨s.x, s.y - k * s.x, s.p + k * s.q, s.q, s.r + k * s.t, s.t⟩
  inv : Inv a b B ⟨s.x, s.y - k * s.x, s.p + k * s.q, s.q, s.r + k * s.t, s.t⟩
  kx0 : 0 ≤ k * s.x
  kx1 : k * s.x < s.y
  kq0 : 0 ≤ k * s.q
  kq1 : s.p + k * s.q ≤ a
  kt0 : 0 ≤ k * s.t
  kt1 : s.r + k * s.t ≤ b
  falls : s.y - k * s.x < s.y

theorem big_y {a b B : Int} (hB : 0 ≤ B) {s : St} (h : Inv a b B s) (hd : B < s.y - s.x) : BigY a b B s ((s.y - B - 1) / s.x) := by
  have hx := h.hx; have hy := h.hy
  have hx0 : 0 < s.x := by omega
  have hm := Int.ediv_mul_le (s.y - B - 1) (show s.x ≠ 0 by omega)
  have hk : 1 ≤ (s.y - B - 1) / s.x := by
    rw [Int.le_ediv_iff_mul_le hx0]; omega
  generalize (s.y - B - 1) / s.x = k at hm hk
  obtain ⟨n, rfl⟩ := Int.eq_ofNat_of_zero_le (show 0 ≤ k by omega)
  have e := many_y hB s n (by omega) hx0
  have hi := h.it n
  rw [e] at hi
  have hz := hi.sized hB
  have kx := mul_le_of_pos (show 0 ≤ s.x by omega) hk
  rw [Int.mul_comm] at kx
  exact ⟨hk, e, hi, by omega, by omega, Int.mul_nonneg (by omega) h.q0, hz.pa, Int.mul_nonneg (by omega) h.t0, hz.rb, by omega⟩

end Go.Proofs.Ybulkcekm
