/-
  How many bits of a word are set: the plain law of math/bits.OnesCount64 (the sum by halves), and what setting one bit does to it. No Go in sight.
-/
namespace Go.Proofs.Qxb6604363a.Pop

/-- How many of the lowest k bits of x are set. -/
def pc : Nat → Nat → Nat
  | 0, _ => 0
  | k + 1, x => x % 2 + pc k (x / 2)
theorem pc_le : ∀ k x, pc k x ≤ k
  | 0, _ => by simp [pc]
  | k + 1, x => by have := pc_le k (x / 2); simp only [pc]; omega
theorem pc_add (a : Nat) : ∀ k x, pc (k + a) x = pc k x + pc a (x / 2 ^ k)
  | 0, x => by simp [pc]
  | k + 1, x => by
    rw [show k + 1 + a = (k + a) + 1 by omega]
    simp only [pc]
    rw [pc_add a k (x / 2), Nat.div_div_eq_div_mul, show 2 * 2 ^ k = 2 ^ (k + 1) by rw [Nat.pow_succ]; omega]
    omega
theorem pc_mod : ∀ k x, pc k (x % 2 ^ k) = pc k x
  | 0, x => by simp [pc]
  | k + 1, x => by
    simp only [pc]
    have h1 : x % 2 ^ (k + 1) % 2 = x % 2 := Nat.mod_mod_of_dvd _ ⟨2 ^ k, by rw [Nat.pow_succ]; omega⟩
    have h2 : x % 2 ^ (k + 1) / 2 = x / 2 % 2 ^ k := by
      rw [Nat.pow_succ, Nat.mul_comm, Nat.mod_mul_right_div_self]
    rw [h1, h2, pc_mod k (x / 2)]
/-- A byte and the rest. -/
theorem pc_byte (k y b : Nat) (hb : b < 256) : pc (8 + k) (256 * y + b) = pc 8 b + pc k y := by
  rw [pc_add k 8, ← pc_mod 8 (256 * y + b)]
  rw [show (2 : Nat) ^ 8 = 256 by decide, show (256 * y + b) % 256 = b by omega, show (256 * y + b) / 256 = y by omega]

/-- Setting a bit. -/
theorem pc_or : ∀ j k x, j < k → pc k (x ||| 2 ^ j) = pc k x + (if x.testBit j then 0 else 1)
  | j, 0, x, h => by omega
  | 0, k + 1, x, _ => by
    simp only [pc]
    have h1 : (x ||| 2 ^ 0) / 2 = x / 2 := by
      rw [Nat.or_div_two]
      simp
    have h2 : (x ||| 2 ^ 0) % 2 = 1 := by
      have := Nat.testBit_or x (2 ^ 0) 0
      rw [Nat.testBit_zero, Nat.testBit_two_pow] at this
      simp only [decide_true, Bool.or_true, decide_eq_true_eq] at this
      exact this
    rw [h1, h2, Nat.testBit_zero]
    by_cases h : x % 2 = 1 <;> simp [h] <;> omega
  | j + 1, k + 1, x, h => by
    simp only [pc]
    have h1 : (x ||| 2 ^ (j + 1)) / 2 = x / 2 ||| 2 ^ j := by
      rw [Nat.or_div_two, Nat.pow_succ, Nat.mul_div_cancel _ (by omega)]
    have h2 : (x ||| 2 ^ (j + 1)) % 2 = x % 2 := by
      have := Nat.testBit_or x (2 ^ (j + 1)) 0
      have e : decide (j + 1 = 0) = false := by simp
      rw [Nat.testBit_zero, Nat.testBit_zero, Nat.testBit_two_pow, e, Bool.or_false, decide_eq_decide] at this
      omega
    rw [h1, h2, pc_or j k (x / 2) (by omega), Nat.testBit_succ]
    omega

/-! ### The sum by halves, byte by byte -/
theorem land_byte (a b c d : Nat) (hb : b < 256) (hd : d < 256) : (256 * a + b) &&& (256 * c + d) = 256 * (a &&& c) + (b &&& d) := by
  have hbd : b &&& d < 2 ^ 8 := Nat.and_lt_two_pow b (by omega)
  apply Nat.eq_of_testBit_eq
  intro i
  rw [Nat.testBit_and, show 256 * a + b = 2 ^ 8 * a + b by omega, show 256 * c + d = 2 ^ 8 * c + d by omega, show 256 * (a &&& c) + (b &&& d) = 2 ^ 8 * (a &&& c) + (b &&& d) by omega]
  rw [Nat.testBit_two_pow_mul_add _ (by omega), Nat.testBit_two_pow_mul_add _ (by omega), Nat.testBit_two_pow_mul_add _ hbd]
  by_cases h : i < 8
  · simp [h]
  · simp [h]
def st1 (m x : Nat) : Nat := (x / 2 &&& m) + (x &&& m)
def st2 (m x : Nat) : Nat := (x / 4 &&& m) + (x &&& m)
def st3 (m x : Nat) : Nat := (x / 16 + x) &&& m
theorem b1 : ∀ b : Fin 256, (b.val / 2 &&& 85) = ((128 + b.val / 2) &&& 85) := by decide +kernel
theorem b2 : ∀ r : Fin 4, ∀ b : Fin 256, (b.val / 4 &&& 51) = ((64 * r.val + b.val / 4) &&& 51) := by decide +kernel
theorem b12 : ∀ b : Fin 256, st2 51 (st1 85 b.val) < 256 ∧ st1 85 b.val < 256 ∧ st2 51 (st1 85 b.val) / 16 ≤ 4 ∧ st2 51 (st1 85 b.val) % 16 ≤ 4 ∧ st2 51 (st1 85 b.val) / 16 + st2 51 (st1 85 b.val) % 16 = pc 8 b.val := by decide +kernel
theorem st1_byte (m y b : Nat) (hb : b < 256) : st1 (256 * m + 85) (256 * y + b) = 256 * st1 m y + st1 85 b := by
  unfold st1
  rw [show (256 * y + b) / 2 = 256 * (y / 2) + (128 * (y % 2) + b / 2) by omega, land_byte _ _ _ _ (by omega) (by omega), land_byte _ _ _ _ hb (by omega)]
  have h := b1 ⟨b, hb⟩
  simp only at h
  rcases (show y % 2 = 0 ∨ y % 2 = 1 by omega) with e | e
  · rw [e, Nat.mul_zero, Nat.zero_add]; omega
  · rw [e, Nat.mul_one, ← h]; omega
theorem st2_byte (m y b : Nat) (hb : b < 256) : st2 (256 * m + 51) (256 * y + b) = 256 * st2 m y + st2 51 b := by
  unfold st2
  rw [show (256 * y + b) / 4 = 256 * (y / 4) + (64 * (y % 4) + b / 4) by omega, land_byte _ _ _ _ (by omega) (by omega), land_byte _ _ _ _ hb (by omega)]
  have h := b2 ⟨y % 4, by omega⟩ ⟨b, hb⟩
  simp only at h
  rw [← h]; omega
theorem st3_byte (m y b : Nat) (hy : y % 16 ≤ 4) (h1 : b / 16 ≤ 4) (h2 : b % 16 ≤ 4) : st3 (256 * m + 15) (256 * y + b) = 256 * st3 m y + (b / 16 + b % 16) := by
  unfold st3
  rw [show (256 * y + b) / 16 + (256 * y + b) = 256 * (y / 16 + y) + (16 * (y % 16 + b / 16) + (b / 16 + b % 16)) by omega, land_byte _ _ _ _ (by omega) (by omega)]
  have h : (16 * (y % 16 + b / 16) + (b / 16 + b % 16)) &&& 15 = b / 16 + b % 16 := by
    rw [show (15 : Nat) = 2 ^ 4 - 1 by decide, Nat.and_two_pow_sub_one_eq_mod]
    omega
  rw [h]
def mk (b : Nat) : Nat → Nat
  | 0 => 0
  | n + 1 => 256 * mk b n + b
/-- The three first steps over n bytes: each byte holds how many of its bits are set. -/
def sums : Nat → Nat → Nat
  | 0, _ => 0
  | n + 1, x => 256 * sums n (x / 256) + pc 8 (x % 256)
theorem steps_bytes : ∀ n x, x < 256 ^ n → st2 (mk 51 n) (st1 (mk 85 n) x) % 16 ≤ 4 ∧ st3 (mk 15 n) (st2 (mk 51 n) (st1 (mk 85 n) x)) = sums n x
  | 0, x, h => by
    simp at h
    subst h
    simp [mk, sums, st1, st2, st3]
  | n + 1, x, h => by
    have hx : x = 256 * (x / 256) + x % 256 := by omega
    have hlt : x / 256 < 256 ^ n := by
      rw [Nat.pow_succ] at h
      exact Nat.div_lt_of_lt_mul (by omega)
    have ih := steps_bytes n (x / 256) hlt
    have hb : x % 256 < 256 := by omega
    have q := b12 ⟨x % 256, hb⟩
    simp only at q
    obtain ⟨q1, q2, q3, q4, q5⟩ := q
    simp only [mk, sums]
    conv => lhs; rw [hx]
    conv => rhs; lhs; rw [hx]
    rw [st1_byte _ _ _ hb, st2_byte _ _ _ q2, st3_byte _ _ _ ih.1 q3 q4, ih.2, q5]
    exact ⟨by omega, rfl⟩
theorem sums8 (x : Nat) : sums 8 x = pc 8 (x % 256) + 256 * (pc 8 (x / 256 % 256) + 256 * (pc 8 (x / 256 / 256 % 256) + 256 * (pc 8 (x / 256 / 256 / 256 % 256) + 256 * (pc 8 (x / 256 / 256 / 256 / 256 % 256) + 256 * (pc 8 (x / 256 / 256 / 256 / 256 / 256 % 256) + 256 * (pc 8 (x / 256 / 256 / 256 / 256 / 256 / 256 % 256) + 256 * pc 8 (x / 256 / 256 / 256 / 256 / 256 / 256 / 256 % 256))))))) := by
  simp only [sums]
  omega
theorem pc64 (x : Nat) : pc 64 x = pc 8 (x % 256) + (pc 8 (x / 256 % 256) + (pc 8 (x / 256 / 256 % 256) + (pc 8 (x / 256 / 256 / 256 % 256) + (pc 8 (x / 256 / 256 / 256 / 256 % 256) + (pc 8 (x / 256 / 256 / 256 / 256 / 256 % 256) + (pc 8 (x / 256 / 256 / 256 / 256 / 256 / 256 % 256) + pc 8 (x / 256 / 256 / 256 / 256 / 256 / 256 / 256 % 256))))))) := by
  have step : ∀ k y, pc (8 + k) y = pc 8 (y % 256) + pc k (y / 256) := fun k y => by
    have := pc_byte k (y / 256) (y % 256) (by omega)
    rwa [show 256 * (y / 256) + y % 256 = y by omega] at this
  rw [show 64 = 8 + 56 by rfl, step, show 56 = 8 + 48 by rfl, step, show 48 = 8 + 40 by rfl, step, show 40 = 8 + 32 by rfl, step, show 32 = 8 + 24 by rfl, step, show 24 = 8 + 16 by rfl, step, show 16 = 8 + 8 by rfl, step]
  have e := pc_mod 8 (x / 256 / 256 / 256 / 256 / 256 / 256 / 256)
  rw [show (2 : Nat) ^ 8 = 256 by decide] at e
  rw [e]
theorem div_of (l q m a : Nat) (hl : l < m) (h : a = l + m * q) : a / m = q := by
  subst h
  rw [Nat.add_mul_div_left _ _ (by omega), Nat.div_eq_of_lt hl, Nat.zero_add]
/-! The three folds, each a linear equation (the quotient a letter). -/
theorem foldA (p0 p1 p2 p3 p4 p5 p6 p7 z q a : Nat) (hz : z = p0 + 256 * (p1 + 256 * (p2 + 256 * (p3 + 256 * (p4 + 256 * (p5 + 256 * (p6 + 256 * p7)))))))
    (hq : q = p1 + 256 * (p2 + 256 * (p3 + 256 * (p4 + 256 * (p5 + 256 * (p6 + 256 * p7)))))) (ha : a = z + q) :
    a = ((p0 + p1) + 256 * (p1 + p2)) + 65536 * ((p2 + p3) + 256 * ((p3 + p4) + 256 * ((p4 + p5) + 256 * ((p5 + p6) + 256 * ((p6 + p7) + 256 * p7))))) := by
  subst hz hq; omega
theorem foldB (p0 p1 p2 p3 p4 p5 p6 p7 a q b : Nat) (ha : a = ((p0 + p1) + 256 * (p1 + p2)) + 65536 * ((p2 + p3) + 256 * ((p3 + p4) + 256 * ((p4 + p5) + 256 * ((p5 + p6) + 256 * ((p6 + p7) + 256 * p7))))))
    (hq : q = (p2 + p3) + 256 * ((p3 + p4) + 256 * ((p4 + p5) + 256 * ((p5 + p6) + 256 * ((p6 + p7) + 256 * p7))))) (hb : b = a + q) :
    b = ((p0 + p1 + p2 + p3) + 256 * ((p1 + p2 + p3 + p4) + 256 * ((p2 + p3 + p4 + p5) + 256 * (p3 + p4 + p5 + p6)))) + 4294967296 * ((p4 + p5 + p6 + p7) + 256 * ((p5 + p6 + p7) + 256 * ((p6 + p7) + 256 * p7))) := by
  subst ha hq; omega
theorem foldC (p0 p1 p2 p3 p4 p5 p6 p7 b q c : Nat) (hb : b = ((p0 + p1 + p2 + p3) + 256 * ((p1 + p2 + p3 + p4) + 256 * ((p2 + p3 + p4 + p5) + 256 * (p3 + p4 + p5 + p6)))) + 4294967296 * ((p4 + p5 + p6 + p7) + 256 * ((p5 + p6 + p7) + 256 * ((p6 + p7) + 256 * p7))))
    (hq : q = (p4 + p5 + p6 + p7) + 256 * ((p5 + p6 + p7) + 256 * ((p6 + p7) + 256 * p7))) (hc : c = b + q) :
    c = (p0 + (p1 + (p2 + (p3 + (p4 + (p5 + (p6 + p7))))))) + 128 * (2 * ((p1 + p2 + p3 + p4 + p5 + p6 + p7) + 256 * ((p2 + p3 + p4 + p5 + p6 + p7) + 256 * (p3 + p4 + p5 + p6 + p7)) + 16777216 * ((p4 + p5 + p6 + p7) + 256 * ((p5 + p6 + p7) + 256 * ((p6 + p7) + 256 * p7))))) := by
  subst hb hq; omega
theorem fold8 (p0 p1 p2 p3 p4 p5 p6 p7 : Nat) (h0 : p0 ≤ 8) (h1 : p1 ≤ 8) (h2 : p2 ≤ 8) (h3 : p3 ≤ 8) (h4 : p4 ≤ 8) (h5 : p5 ≤ 8) (h6 : p6 ≤ 8) (h7 : p7 ≤ 8) (z a b c : Nat)
    (hz : z = p0 + 256 * (p1 + 256 * (p2 + 256 * (p3 + 256 * (p4 + 256 * (p5 + 256 * (p6 + 256 * p7)))))))
    (ha : a = z + z / 256) (hb : b = a + a / 65536) (hc : c = b + b / 4294967296) :
    c % 128 = p0 + (p1 + (p2 + (p3 + (p4 + (p5 + (p6 + p7)))))) ∧ c < 9223372036854775808 ∧ z < 9223372036854775808 ∧ a < 9223372036854775808 ∧ b < 9223372036854775808 := by
  have e1 := div_of p0 _ 256 z (by omega) hz
  have ha' := foldA p0 p1 p2 p3 p4 p5 p6 p7 z _ a hz e1 ha
  have e2 := div_of _ _ 65536 a (by clear hz ha hb hc e1 ha'; omega) ha'
  have hb' := foldB p0 p1 p2 p3 p4 p5 p6 p7 a _ b ha' e2 hb
  have e3 := div_of _ _ 4294967296 b (by clear hz ha hb hc e1 ha' e2 hb'; omega) hb'
  have hc' := foldC p0 p1 p2 p3 p4 p5 p6 p7 b _ c hb' e3 hc
  clear ha hb e1 e2 hc e3
  refine ⟨?_, by clear hz ha' hb'; omega, by clear ha' hb' hc'; omega, by clear hz hb' hc'; omega, by clear hz ha' hc'; omega⟩
  rw [hc', Nat.add_mul_mod_self_left]
  exact Nat.mod_eq_of_lt (by clear hz ha' hb' hc'; omega)
end Go.Proofs.Qxb6604363a.Pop
