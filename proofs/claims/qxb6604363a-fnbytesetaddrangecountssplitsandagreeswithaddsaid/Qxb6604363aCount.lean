/-
  math/bits.OnesCount64, (*byteSet).count and has and their doors, walked.
-/
import Derived.Test.Qxb6604363aAdd
import Derived.Test.Qxb6604363aPop
namespace Go.Proofs.Qxb6604363a
open Go.RowKit
open Pop

def o1 (x : Int) : Int := IntKind.u64.wrap (bits .and .u64 (x / 2) 6148914691236517205 + bits .and .u64 x 6148914691236517205)
def o2 (x : Int) : Int := IntKind.u64.wrap (bits .and .u64 (x / 4) 3689348814741910323 + bits .and .u64 x 3689348814741910323)
def o3 (x : Int) : Int := bits .and .u64 (IntKind.u64.wrap (x / 16 + x)) 1085102592571150095
def o4 (x : Int) : Int := IntKind.u64.wrap (x + x / 256)
def o5 (x : Int) : Int := IntKind.u64.wrap (x + x / 65536)
def o6 (x : Int) : Int := IntKind.u64.wrap (x + x / 4294967296)
def o7 (x : Int) : Int := bits .and .i64 (wrap64 x) 127
/-- What OnesCount64 reckons, step by step. -/
def onesI (x : Int) : Int := o7 (o6 (o5 (o4 (o3 (o2 (o1 x))))))

theorem wrap_nat (n : Nat) (h : n < 18446744073709551616) : IntKind.u64.wrap (n : Int) = n := by
  simp only [IntKind.wrap, IntKind.signed, IntKind.bits]
  simp
  omega
theorem o1_nat (x : Nat) (h : x < 18446744073709551616) : o1 x = (st1 (mk 85 8) x : Nat) := by
  unfold o1 st1
  have e : mk 85 8 = 6148914691236517205 := by decide
  rw [e]
  have h1 := Nat.and_le_right (n := x / 2) (m := 6148914691236517205)
  have h2 := Nat.and_le_right (n := x) (m := 6148914691236517205)
  have a1 : bits .and .u64 ((x : Int) / 2) 6148914691236517205 = ((x / 2 &&& 6148914691236517205 : Nat) : Int) := by
    have := u64_and_nat (x / 2) 6148914691236517205 (by omega) (by decide)
    simpa using this
  have a2 : bits .and .u64 (x : Int) 6148914691236517205 = ((x &&& 6148914691236517205 : Nat) : Int) := u64_and_nat x 6148914691236517205 h (by decide)
  rw [a1, a2, ← Int.natCast_add, wrap_nat _ (by omega)]
theorem o2_nat (x : Nat) (h : x < 18446744073709551616) : o2 x = (st2 (mk 51 8) x : Nat) := by
  unfold o2 st2
  have e : mk 51 8 = 3689348814741910323 := by decide
  rw [e]
  have h1 := Nat.and_le_right (n := x / 4) (m := 3689348814741910323)
  have h2 := Nat.and_le_right (n := x) (m := 3689348814741910323)
  have a1 : bits .and .u64 ((x : Int) / 4) 3689348814741910323 = ((x / 4 &&& 3689348814741910323 : Nat) : Int) := by
    have := u64_and_nat (x / 4) 3689348814741910323 (by omega) (by decide)
    simpa using this
  have a2 : bits .and .u64 (x : Int) 3689348814741910323 = ((x &&& 3689348814741910323 : Nat) : Int) := u64_and_nat x 3689348814741910323 h (by decide)
  rw [a1, a2, ← Int.natCast_add, wrap_nat _ (by omega)]
theorem o3_nat (x : Nat) (h : x < 9223372036854775808) : o3 x = (st3 (mk 15 8) x : Nat) := by
  unfold o3 st3
  have e : mk 15 8 = 1085102592571150095 := by decide
  rw [e]
  have a0 : (x : Int) / 16 + x = ((x / 16 + x : Nat) : Int) := by simp
  rw [a0, wrap_nat _ (by omega)]
  exact u64_and_nat (x / 16 + x) 1085102592571150095 (by omega) (by decide)
theorem st1_lt (x : Nat) : st1 (mk 85 8) x < 18446744073709551616 := by
  have e : mk 85 8 = 6148914691236517205 := by decide
  have h1 := Nat.and_le_right (n := x / 2) (m := mk 85 8)
  have h2 := Nat.and_le_right (n := x) (m := mk 85 8)
  unfold st1; omega
theorem st2_lt (x : Nat) : st2 (mk 51 8) x < 9223372036854775808 := by
  have e : mk 51 8 = 3689348814741910323 := by decide
  have h1 := Nat.and_le_right (n := x / 4) (m := mk 51 8)
  have h2 := Nat.and_le_right (n := x) (m := mk 51 8)
  unfold st2; omega
theorem wrap64_nat (n : Nat) (h : n < 9223372036854775808) : wrap64 (n : Int) = n := by
  unfold wrap64; omega
theorem i64_and127 (n : Nat) (h : n < 9223372036854775808) : bits .and .i64 (n : Int) 127 = ((n % 128 : Nat) : Int) := by
  have h2 : bits .and .i64 ((n : Nat) : Int) ((127 : Nat) : Int) = ((n &&& 127 : Nat) : Int) :=
    (bits_nat .i64 63 (by decide) (fun n _ _ => by rw [IntKind.wrap_i64]; omega) n 127 (by omega) (by decide)).1
  rw [show ((127 : Nat) : Int) = 127 from rfl] at h2
  rw [h2, show (127 : Nat) = 2 ^ 7 - 1 by decide, Nat.and_two_pow_sub_one_eq_mod]
theorem fold_go (p0 p1 p2 p3 p4 p5 p6 p7 : Nat) (h0 : p0 ≤ 8) (h1 : p1 ≤ 8) (h2 : p2 ≤ 8) (h3 : p3 ≤ 8) (h4 : p4 ≤ 8) (h5 : p5 ≤ 8) (h6 : p6 ≤ 8) (h7 : p7 ≤ 8) (z : Nat)
    (hz : z = p0 + 256 * (p1 + 256 * (p2 + 256 * (p3 + 256 * (p4 + 256 * (p5 + 256 * (p6 + 256 * p7))))))) :
    o7 (o6 (o5 (o4 (z : Int)))) = ((p0 + (p1 + (p2 + (p3 + (p4 + (p5 + (p6 + p7)))))) : Nat) : Int) := by
  obtain ⟨q1, q2, q3, q4, q5⟩ := fold8 p0 p1 p2 p3 p4 p5 p6 p7 h0 h1 h2 h3 h4 h5 h6 h7 z _ _ _ hz rfl rfl rfl
  rw [← q1]
  clear hz q1 h0 h1 h2 h3 h4 h5 h6 h7
  have e4 : o4 (z : Int) = ((z + z / 256 : Nat) : Int) := by
    unfold o4
    rw [show (z : Int) + z / 256 = ((z + z / 256 : Nat) : Int) by simp]
    exact wrap_nat _ (by omega)
  rw [e4]
  clear e4
  generalize z + z / 256 = a at *
  have e5 : o5 (a : Int) = ((a + a / 65536 : Nat) : Int) := by
    unfold o5
    rw [show (a : Int) + a / 65536 = ((a + a / 65536 : Nat) : Int) by simp]
    exact wrap_nat _ (by omega)
  rw [e5]
  clear e5
  generalize a + a / 65536 = b at *
  have e6 : o6 (b : Int) = ((b + b / 4294967296 : Nat) : Int) := by
    unfold o6
    rw [show (b : Int) + b / 4294967296 = ((b + b / 4294967296 : Nat) : Int) by simp]
    exact wrap_nat _ (by omega)
  rw [e6]
  clear e6
  generalize b + b / 4294967296 = c at *
  unfold o7
  rw [wrap64_nat c q2, i64_and127 c q2]
/-- OnesCount64 counts the bits that are set. -/
theorem onesI_nat (x : Nat) (h : x < 18446744073709551616) : onesI x = (pc 64 x : Nat) := by
  unfold onesI
  have hs := steps_bytes 8 x (by rw [show 256 ^ 8 = 18446744073709551616 by decide]; exact h)
  rw [o1_nat x h, o2_nat _ (st1_lt x), o3_nat _ (st2_lt _), hs.2, sums8, pc64]
  exact fold_go _ _ _ _ _ _ _ _ (pc_le 8 _) (pc_le 8 _) (pc_le 8 _) (pc_le 8 _) (pc_le 8 _) (pc_le 8 _) (pc_le 8 _) (pc_le 8 _) _ rfl

set_option maxHeartbeats 1000000 in
theorem ones_any (x : Int) (w : World) :
    Calls Try.prog 46 #[.int .u64 x] w fun e w' => e = .returned (.int .i64 (onesI x)) ∧ w' = w := by
  go_enter Try.func46, Try.ntmps46
  go_wp2
  go_ret
  exact ⟨rfl, rfl⟩

/-- How many members the set has: the sum over the first k words. -/
def cntTo (g : Nat → Int) : Nat → Int
  | 0 => 0
  | k + 1 => cntTo g k + onesI (g k)
theorem onesI_bound (x : Int) (h0 : 0 ≤ x) (h1 : x < 18446744073709551616) : 0 ≤ onesI x ∧ onesI x ≤ 64 := by
  obtain ⟨n, rfl⟩ := Int.eq_ofNat_of_zero_le h0
  rw [onesI_nat n (by omega)]
  have := pc_le 64 n
  omega
theorem cntTo_bound (g : Nat → Int) (hg : ∀ i, 0 ≤ g i ∧ g i < 18446744073709551616) : ∀ k : Nat, 0 ≤ cntTo g k ∧ cntTo g k ≤ 64 * k
  | 0 => by simp [cntTo]
  | k + 1 => by
    have h1 := cntTo_bound g hg k
    have h2 := onesI_bound (g k) (hg k).1 (hg k).2
    simp only [cntTo]
    omega

/-- The set's count as natural numbers. -/
theorem onesI_orBit (x c : Int) (h0 : 0 ≤ x) (h1 : x < 18446744073709551616) : onesI (orBit x c) = onesI x + (if bitI x (c % 64).toNat then 0 else 1) := by
  obtain ⟨n, rfl⟩ := Int.eq_ofNat_of_zero_le h0
  have hb := orBit_bound n c h0 h1
  rw [orBit_nat n c (by omega)] at hb ⊢
  rw [onesI_nat _ (by omega), onesI_nat n (by omega), pc_or _ 64 n (by omega), bitI_nat]
  cases n.testBit (c % 64).toNat <;> simp
theorem cntTo_congr (g h : Nat → Int) : ∀ k : Nat, (∀ i, i < k → g i = h i) → cntTo g k = cntTo h k
  | 0, _ => rfl
  | k + 1, e => by
    simp only [cntTo]
    rw [cntTo_congr g h k (fun i hi => e i (by omega)), e k (by omega)]
theorem cnt_ins (g : Nat → Int) (c : Int) (hc0 : 0 ≤ c) (hg : ∀ i, 0 ≤ g i ∧ g i < 18446744073709551616) :
    ∀ k : Nat, (c / 64).toNat < k → cntTo (insG g c) k = cntTo g k + (if bitAt g c.toNat then 0 else 1)
  | 0, h => by omega
  | k + 1, h => by
    simp only [cntTo]
    by_cases e : (c / 64).toNat = k
    · rw [cntTo_congr (insG g c) g k (fun i hi => by unfold insG; rw [if_neg (by omega)])]
      have e1 : insG g c k = orBit (g k) c := by unfold insG; rw [if_pos e.symm]
      rw [e1, onesI_orBit _ _ (hg k).1 (hg k).2, bitAt_eq, show c.toNat / 64 = k by omega, show c.toNat % 64 = (c % 64).toNat by omega]
      omega
    · rw [cnt_ins g c hc0 hg k (by omega)]
      have e1 : insG g c k = g k := by unfold insG; rw [if_neg (fun h => e h.symm)]
      rw [e1]
      omega
/-- Inserting what is there changes nothing. -/
theorem orBit_idem (x c : Int) (h0 : 0 ≤ x) (h1 : x < 18446744073709551616) : orBit (orBit x c) c = orBit x c := by
  have hb := orBit_bound x c h0 h1
  obtain ⟨n, rfl⟩ := Int.eq_ofNat_of_zero_le h0
  rw [orBit_nat n c (by omega)] at hb ⊢
  rw [orBit_nat _ c (by omega), Nat.or_assoc, Nat.or_self]
theorem insG_idem (g : Nat → Int) (c : Int) (hg : ∀ i, 0 ≤ g i ∧ g i < 18446744073709551616) : insG (insG g c) c = insG g c := by
  funext i
  unfold insG
  by_cases e : i = (c / 64).toNat
  · rw [if_pos e, if_pos e, orBit_idem _ _ (hg i).1 (hg i).2]
  · rw [if_neg e, if_neg e]

set_option maxHeartbeats 1000000 in
theorem count_any (b : Nat) (g : Nat → Int) (t : TypeId) (w : World) (hg : ∀ i, 0 ≤ g i ∧ g i < 18446744073709551616) (hb : w.heap[b]? = some (.cells (ucells g) t (0, 0))) :
    Calls Try.prog 39 #[.pointer (some ⟨b, 0, none⟩)] w fun e w' => e = .returned (.int .i64 (cntTo g 4)) ∧ w' = w := by
  have hcell : ∀ k, k < 4 → w.cell? ⟨b, k, none⟩ = some (.int .u64 (g k)) := fun k hk => by
    rw [cell_of_row w b _ _ t _ hb]; exact ucells_get g _ hk
  have HC := hcell
  clear hb hcell
  have HC' : Hid (∀ k, k < 4 → w.cell? ⟨b, k, none⟩ = some (.int .u64 (g k))) := HC
  clear HC
  go_enter Try.func39, Try.ntmps39
  go_wp2
  go_loop [3, 7] (fun n i => ∃ k : Nat, k ≤ 4 ∧ i = .int .i64 k ∧ n = .int .i64 (cntTo g k)) (fun _ i => 4 - (intOf i).toNat)
  case atStart => exact ⟨0, by omega, rfl, rfl⟩
  case round =>
    obtain ⟨k, hk, rfl, rfl⟩ := hrel
    by_cases hlt : k < 4
    · have hc := HC'.out k hlt
      obtain ⟨c0, c1⟩ := cntTo_bound g hg k
      obtain ⟨d0, d1⟩ := onesI_bound (g k) (hg k).1 (hg k).2
      have HS : Hid (cntTo g (k + 1) = cntTo g k + onesI (g k)) := rfl
      generalize cntTo g k = C at *
      go_wp2_with (go_at_call 46; refine (ones_any _ _).mono ?_; rintro e w' ⟨rfl, rfl⟩)
      go_round
      case rel => exact ⟨k + 1, by omega, by go_num, by rw [HS.out]⟩
      case measure => simp [intOf]; omega
    · have hk4 : k = 4 := by omega
      subst hk4
      go_wp2
      go_ret
      exact ⟨rfl, rfl⟩

set_option maxHeartbeats 400000 in
theorem zzCount_any (b : Nat) (g : Nat → Int) (t : TypeId) (w : World) (hg : ∀ i, 0 ≤ g i ∧ g i < 18446744073709551616) (hb : w.heap[b]? = some (.cells (ucells g) t (0, 0))) :
    Calls Try.prog 15 #[.pointer (some ⟨b, 0, none⟩)] w fun e w' => e = .returned (.int .i64 (cntTo g 4)) ∧ w' = w := by
  have HB : Hid (w.heap[b]? = some (.cells (ucells g) t (0, 0))) := hb
  clear hb
  go_enter Try.func15, Try.ntmps15
  go_wp2_with (go_at_call 39; refine (count_any b g t _ hg HB.out).mono ?_; rintro e w' ⟨rfl, rfl⟩)
  go_ret
  exact ⟨rfl, rfl⟩

theorem andBit_ne (x c : Int) (h0 : 0 ≤ x) (h1 : x < 18446744073709551616) : (bits .and .u64 x (IntKind.u64.wrap (2 ^ (c % 64).toNat)) != 0) = bitI x (c % 64).toNat := by
  obtain ⟨n, rfl⟩ := Int.eq_ofNat_of_zero_le h0
  have hj : (c % 64).toNat < 64 := by omega
  have h2 : 2 ^ (c % 64).toNat < 2 ^ 64 := Nat.pow_lt_pow_right (by omega) hj
  have h3 : (2 : Nat) ^ 64 = 18446744073709551616 := by decide
  rw [wrap_pow _ hj, u64_and_nat n _ (by omega) (by omega), bitI_nat]
  generalize (c % 64).toNat = j
  have e : n &&& 2 ^ j = if n.testBit j then 2 ^ j else 0 := by
    apply Nat.eq_of_testBit_eq
    intro i
    rw [Nat.testBit_and, Nat.testBit_two_pow]
    by_cases h : j = i
    · subst h
      cases hn : n.testBit j <;> simp
    · cases hn : n.testBit j <;> simp [h]
  have hp : 0 < 2 ^ j := Nat.two_pow_pos j
  rw [e]
  generalize 2 ^ j = q at *
  cases n.testBit j
  · rfl
  · simp
    omega

set_option maxHeartbeats 400000 in
theorem has_any (b : Nat) (g : Nat → Int) (t : TypeId) (c : Int) (w : World) (hc0 : 0 ≤ c) (hc1 : c < 256) (hg : ∀ i, 0 ≤ g i ∧ g i < 18446744073709551616) (hb : w.heap[b]? = some (.cells (ucells g) t (0, 0))) :
    Calls Try.prog 38 #[.pointer (some ⟨b, 0, none⟩), .int .u8 c] w fun e w' => e = .returned (.bool (bitAt g c.toNat)) ∧ w' = w := by
  have hcell : w.cell? ⟨b, (c / 64).toNat, none⟩ = some (.int .u64 (g (c / 64).toNat)) := by
    rw [cell_of_row w b _ _ t _ hb]; exact ucells_get g _ (by omega)
  have HE : Hid (bitAt g c.toNat = (bits .and .u64 (g (c / 64).toNat) (IntKind.u64.wrap (2 ^ (c % 64).toNat)) != 0)) := by
    show bitAt g c.toNat = _
    rw [andBit_ne _ _ (hg _).1 (hg _).2, bitAt_eq]
    congr 2
    · omega
    · omega
  clear hb hg
  go_enter Try.func38, Try.ntmps38
  go_wp2
  go_ret
  exact ⟨by rw [HE.out]; rfl, rfl⟩

set_option maxHeartbeats 400000 in
theorem zzHas_any (b : Nat) (g : Nat → Int) (t : TypeId) (c : Int) (w : World) (hc0 : 0 ≤ c) (hc1 : c < 256) (hg : ∀ i, 0 ≤ g i ∧ g i < 18446744073709551616) (hb : w.heap[b]? = some (.cells (ucells g) t (0, 0))) :
    Calls Try.prog 14 #[.pointer (some ⟨b, 0, none⟩), .int .u8 c] w fun e w' => e = .returned (.bool (bitAt g c.toNat)) ∧ w' = w := by
  have HB : Hid (w.heap[b]? = some (.cells (ucells g) t (0, 0))) := hb
  clear hb
  go_enter Try.func14, Try.ntmps14
  go_wp2_with (go_at_call 38; refine (has_any b g t c _ hc0 hc1 hg HB.out).mono ?_; rintro e w' ⟨rfl, rfl⟩)
  go_ret
  exact ⟨rfl, rfl⟩
end Go.Proofs.Qxb6604363a
