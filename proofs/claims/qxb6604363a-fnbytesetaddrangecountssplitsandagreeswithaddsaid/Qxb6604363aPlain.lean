/-
  The plain law of FnByteSetAddIsSetInsert: no Go in sight but for the model's own 'bits'.
-/
import Derived.Test.Qxb6604363aDec
namespace Go.Proofs.Qxb6604363a
open Go.RowKit

/-- x with bit c % 64 set, as the walk spells it. -/
def orBit (x c : Int) : Int := bits .or .u64 x (IntKind.u64.wrap (2 ^ (c % 64).toNat))
/-- The set g with c inserted. -/
def insG (g : Nat → Int) (c : Int) (i : Nat) : Int := if i = (c / 64).toNat then orBit (g i) c else g i
theorem wrap_pow (j : Nat) (h : j < 64) : IntKind.u64.wrap (2 ^ j) = ((2 ^ j : Nat) : Int) := by
  have h2 : 2 ^ j < 2 ^ 64 := Nat.pow_lt_pow_right (by omega) h
  have h3 : (2 : Nat) ^ 64 = 18446744073709551616 := by decide
  simp only [IntKind.wrap, IntKind.signed, IntKind.bits]
  have e : ((2 : Int) ^ j) = ((2 ^ j : Nat) : Int) := by simp
  rw [e]
  generalize (2 ^ j : Nat) = p at *
  simp
  omega
theorem orBit_nat (x : Nat) (c : Int) (hx : x < 18446744073709551616) : orBit (x : Int) c = ((x ||| 2 ^ (c % 64).toNat : Nat) : Int) := by
  unfold orBit
  have hj : (c % 64).toNat < 64 := by omega
  rw [wrap_pow _ hj]
  refine u64_or_nat x _ hx ?_
  have h2 : 2 ^ (c % 64).toNat < 2 ^ 64 := Nat.pow_lt_pow_right (by omega) hj
  have h3 : (2 : Nat) ^ 64 = 18446744073709551616 := by decide
  omega
theorem orBit_bound (x c : Int) (h0 : 0 ≤ x) (h1 : x < 18446744073709551616) : 0 ≤ orBit x c ∧ orBit x c < 18446744073709551616 := by
  obtain ⟨n, rfl⟩ := Int.eq_ofNat_of_zero_le h0
  rw [orBit_nat n c (by omega)]
  have hj : (c % 64).toNat < 64 := by omega
  have h3 : (2 : Nat) ^ 64 = 18446744073709551616 := by decide
  have h2 : 2 ^ (c % 64).toNat < 2 ^ 64 := Nat.pow_lt_pow_right (by omega) hj
  have h4 := Nat.or_lt_two_pow (x := n) (y := 2 ^ (c % 64).toNat) (n := 64) (by omega) h2
  omega
theorem insG_bound (g : Nat → Int) (c : Int) (hg : ∀ i, 0 ≤ g i ∧ g i < 18446744073709551616) : ∀ i, 0 ≤ insG g c i ∧ insG g c i < 18446744073709551616 := by
  intro i
  unfold insG
  split
  · exact orBit_bound _ _ (hg i).1 (hg i).2
  · exact hg i
/-- Bit j of x. -/
def bitI (x : Int) (j : Nat) : Bool := x / 2 ^ j % 2 == 1
theorem bitI_nat (x j : Nat) : bitI (x : Int) j = x.testBit j := by
  unfold bitI
  rw [Nat.testBit_eq_decide_div_mod_eq]
  have e : ((x : Int) / 2 ^ j % 2) = ((x / 2 ^ j % 2 : Nat) : Int) := by simp
  rw [e]
  generalize x / 2 ^ j % 2 = r
  by_cases h : r = 1
  · subst h; rfl
  · have : ¬ ((r : Int) = 1) := by omega
    simp [h, this]
theorem bitAt_eq (g : Nat → Int) (i : Nat) : bitAt g i = bitI (g (i / 64)) (i % 64) := rfl
theorem bitI_orBit (x c : Int) (j : Nat) (h0 : 0 ≤ x) (h1 : x < 18446744073709551616) : bitI (orBit x c) j = (bitI x j || decide (j = (c % 64).toNat)) := by
  obtain ⟨n, rfl⟩ := Int.eq_ofNat_of_zero_le h0
  rw [orBit_nat n c (by omega), bitI_nat, bitI_nat, Nat.testBit_or, Nat.testBit_two_pow]
  congr 1
  by_cases h : (c % 64).toNat = j
  · simp [h]
  · simp [h]; exact fun e => h e.symm
/-- The word that zzEncode builds out of a word's own bits is that word. -/
theorem encUp_word (f : Nat → Bool) (k : Nat) (x : Int) (h0 : 0 ≤ x) (h1 : x < 18446744073709551616) (hf : ∀ j, j < 64 → f (k * 64 + j) = bitI x j) :
    ∀ n, n ≤ 64 → encUp f k n = x / 2 ^ (64 - n) := by
  intro n
  induction n with
  | zero =>
    intro _
    have h3 : (2 : Int) ^ 64 = 18446744073709551616 := by decide
    simp only [encUp, Nat.sub_zero, h3]
    omega
  | succ n ih =>
    intro hn
    rw [encUp, ih (by omega), hf (63 - n) (by omega)]
    have e1 : 64 - n = (63 - n) + 1 := by omega
    have e2 : 64 - (n + 1) = 63 - n := by omega
    rw [e1, e2, ← div_two_step]
    unfold bitI
    generalize x / 2 ^ (63 - n) = y
    have hb : y % 2 = 0 ∨ y % 2 = 1 := by omega
    rcases hb with hb | hb
    · simp [hb]; omega
    · simp [hb]; omega
theorem bitAt_insG (g : Nat → Int) (c : Int) (hc0 : 0 ≤ c) (hg : ∀ i, 0 ≤ g i ∧ g i < 18446744073709551616) (n : Nat) :
    bitAt (insG g c) n = (bitAt g n || decide (n = c.toNat)) := by
  rw [bitAt_eq, bitAt_eq]
  unfold insG
  by_cases h : n / 64 = (c / 64).toNat
  · rw [if_pos h, bitI_orBit _ _ _ (hg _).1 (hg _).2]
    congr 1
    rw [decide_eq_decide]
    omega
  · rw [if_neg h]
    have : ¬ n = c.toNat := by omega
    simp [this]
/-- The members f, and n besides. -/
def insB (f : Nat → Bool) (n : Nat) (i : Nat) : Bool := if i = n then true else f i
theorem bcells_insB (f : Nat → Bool) (n : Nat) : (bcells f).setIfInBounds n (.bool true) = bcells (insB f n) := bcells_set f n true
theorem enc_ins (g : Nat → Int) (c : Int) (hc0 : 0 ≤ c) (_hc1 : c < 256) (hg : ∀ i, 0 ≤ g i ∧ g i < 18446744073709551616) :
    ucells (encTo (insB (decTo g 256) c.toNat) 4) = ucells (insG g c) := by
  refine ucells_congr fun i hi => ?_
  unfold encTo
  rw [if_pos hi]
  have hb := insG_bound g c hg i
  have := encUp_word (insB (decTo g 256) c.toNat) i (insG g c i) hb.1 hb.2 (fun j hj => by
    have e := bitAt_insG g c hc0 hg (i * 64 + j)
    rw [bitAt_eq, show (i * 64 + j) / 64 = i by omega, show (i * 64 + j) % 64 = j by omega] at e
    rw [e]
    unfold insB decTo
    by_cases h : i * 64 + j = c.toNat
    · simp [h]
    · rw [if_neg h, if_pos (by omega)]
      simp [h]) 64 (by omega)
  rw [this]
  simp
end Go.Proofs.Qxb6604363a
