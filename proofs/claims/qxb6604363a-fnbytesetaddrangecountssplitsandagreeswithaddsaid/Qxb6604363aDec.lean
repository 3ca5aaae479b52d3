/-
  zzDecode and zzEncode, walked: what each computes, as a plain function.
-/
import Derived.Test.Qxb6604363aCells
namespace Go.Proofs.Qxb6604363a
open Go.RowKit

def bitAt (g : Nat → Int) (i : Nat) : Bool := g (i / 64) / 2 ^ (i % 64) % 2 == 1
def decTo (g : Nat → Int) (k : Nat) (i : Nat) : Bool := if i < k then bitAt g i else false
theorem decTo_succ (g : Nat → Int) (k : Nat) : (fun i => if i = k then bitAt g k else decTo g k i) = decTo g (k + 1) := by
  funext i
  unfold decTo
  by_cases h : i = k
  · subst h; simp
  · by_cases h2 : i < k
    · have : i < k + 1 := by omega
      simp [h, h2, this]
    · have : ¬ i < k + 1 := by omega
      simp [h, h2, this]
theorem decTo_zero (g : Nat → Int) : (fun _ => false) = decTo g 0 := by funext i; simp [decTo]
theorem bitAt_at (g : Nat → Int) (k j : Nat) (h : j < 64) : bitAt g (k * 64 + j) = (g k / 2 ^ j % 2 == 1) := by
  unfold bitAt
  rw [show (k * 64 + j) / 64 = k by omega, show (k * 64 + j) % 64 = j by omega]
theorem div_two_step (x : Int) (j : Nat) : x / 2 ^ j / 2 = x / 2 ^ (j + 1) := by
  rw [Int.ediv_ediv_of_nonneg (Int.pow_nonneg (by decide)), Int.pow_succ]

set_option maxHeartbeats 1000000 in
theorem dec_any (g : Nat → Int) (w : World) (hg : ∀ i, 0 ≤ g i ∧ g i < 18446744073709551616) :
    Calls Try.prog 11 #[.agg (ucells g)] w fun e w' => e = .returned (.agg (bcells (decTo g 256))) ∧ w' = ((w.alloc (.cells (ucells g) 23)).alloc (.cells (bcells (decTo g 256)) 24)).alloc (.cells (bcells (decTo g 256)) 24) := by
  have z24 := Try.zero24
  go_enter Try.func11, Try.ntmps11
  go_wp2
  clear z24
  go_loopw [4] (fun i wr => ∃ k : Nat, k ≤ 4 ∧ i = .int .i64 k ∧ wr = ((w.alloc (.cells (ucells g) 23)).alloc (.cells (bcells fun _ => false) 24)).alloc (.cells (bcells (decTo g (k * 64))) 24)) (fun i _ => 4 - (intOf i).toNat)
  case atStart => exact ⟨0, by omega, rfl, by rw [decTo_zero g]⟩
  case round =>
    obtain ⟨k, hk, rfl, rfl⟩ := hrel
    by_cases hlt : k < 4
    · have hu := ucells_get g k hlt
      obtain ⟨hg0, hg1⟩ := hg k
      clear hg
      go_wp2
      clear hu
      go_loopw [5, 6] (fun v i wr => ∃ j : Nat, j ≤ 64 ∧ i = .int .i64 j ∧ v = .int .u64 (g k / 2 ^ j) ∧ wr = ((w.alloc (.cells (ucells g) 23)).alloc (.cells (bcells fun _ => false) 24)).alloc (.cells (bcells (decTo g (k * 64 + j))) 24)) (fun _ i _ => 64 - (intOf i).toNat)
      case atStart => exact ⟨0, by omega, rfl, by simp, rfl⟩
      case round =>
        obtain ⟨j, hj, rfl, rfl, rfl⟩ := hrel
        by_cases hjl : j < 64
        · have hb := bcells_get (decTo g (k * 64 + j)) (k * 64 + j) (by omega)
          have hd0 : 0 ≤ g k / 2 ^ j := Int.ediv_nonneg hg0 (Int.pow_nonneg (by decide))
          have hd1 : g k / 2 ^ j < 18446744073709551616 := Int.lt_of_le_of_lt (Int.ediv_le_self _ hg0) hg1
          go_wp2
          go_roundw
          case rel =>
            refine ⟨j + 1, by omega, by go_num, by rw [div_two_step], ?_⟩
            rw [← bitAt_at g k j hjl, bcells_set, decTo_succ]; rfl
          case measure => simp [intOf]; omega
        · have hj64 : j = 64 := by omega
          subst hj64
          go_wp2
          go_roundw
          case rel =>
            refine ⟨k + 1, by omega, by go_num, ?_⟩
            rw [show (k + 1) * 64 = k * 64 + 64 by omega]
          case measure => simp [intOf]; omega
    · have hk4 : k = 4 := by omega
      subst hk4
      have h1 := heap3_new w (.cells (ucells g) 23) (.cells (bcells fun _ => false) 24) (.cells (bcells (decTo g (4 * 64))) 24)
      have h2 := heap3_mid w (.cells (ucells g) 23) (.cells (bcells fun _ => false) 24) (.cells (bcells (decTo g (4 * 64))) 24)
      go_wp2_with (first | refine wpList_load_row rfl 24 _ rfl _ rfl 24 _ (0, 0) _ h1 Try.underlying24 rfl (Try.size24 _) ?_ | (refine wpList_store_row rfl 24 _ _ rfl _ _ rfl rfl 24 _ h2 (Try.size24 _) (by rw [bcells_size, bcells_size]) (bcells_one _) ?_; rw [setRow3_mid]))
      exact bodyPost_ret (v := .agg (bcells (decTo g (4 * 64)))) (results_cell_row Try.results11 _ _ (w.heap.size + 1) 24 _ (0, 0) _ rfl (heap3_mid _ _ _ _) Try.underlying24 rfl (Try.size24 _)) rfl ⟨rfl, rfl⟩
/-- The word k of a set as it is built from the highest member down: n members done. -/
def encUp (f : Nat → Bool) (k : Nat) : Nat → Int
  | 0 => 0
  | n + 1 => encUp f k n * 2 + (if f (k * 64 + (63 - n)) then 1 else 0)
def encTo (f : Nat → Bool) (k : Nat) (i : Nat) : Int := if i < k then encUp f i 64 else 0
theorem encTo_succ (f : Nat → Bool) (k : Nat) : (fun i => if i = k then encUp f k 64 else encTo f k i) = encTo f (k + 1) := by
  funext i
  unfold encTo
  by_cases h : i = k
  · subst h; simp
  · by_cases h2 : i < k
    · have : i < k + 1 := by omega
      simp [h, h2, this]
    · have : ¬ i < k + 1 := by omega
      simp [h, h2, this]
theorem encUp_bound (f : Nat → Bool) (k : Nat) : ∀ n, 0 ≤ encUp f k n ∧ encUp f k n < 2 ^ n
  | 0 => by simp [encUp]
  | n + 1 => by
    have := encUp_bound f k n
    rw [Int.pow_succ]
    unfold encUp
    split <;> omega
theorem encUp_le63 (f : Nat → Bool) (k n : Nat) (h : n ≤ 63) : 0 ≤ encUp f k n ∧ encUp f k n < 9223372036854775808 := by
  have h1 := encUp_bound f k n
  have h2 : (2 : Int) ^ n ≤ 2 ^ 63 := by exact_mod_cast Nat.pow_le_pow_right (by omega) h
  have h3 : (2 : Int) ^ 63 = 9223372036854775808 := by decide
  omega

set_option maxHeartbeats 1000000 in
theorem enc_any (f : Nat → Bool) (w : World) :
    Calls Try.prog 12 #[.agg (bcells f)] w fun e w' => e = .returned (.agg (ucells (encTo f 4))) ∧ w' = ((w.alloc (.cells (bcells f) 24)).alloc (.cells (ucells (encTo f 4)) 23)).alloc (.cells (ucells (encTo f 4)) 23) := by
  go_enter Try.func12, Try.ntmps12
  go_wp2
  go_loopw [4] (fun i wr => ∃ k : Nat, k ≤ 4 ∧ i = .int .i64 k ∧ wr = ((w.alloc (.cells (bcells f) 24)).alloc (.cells (ucells fun _ => 0) 23)).alloc (.cells (ucells (encTo f k)) 23)) (fun i _ => 4 - (intOf i).toNat)
  case atStart => exact ⟨0, by omega, rfl, rfl⟩
  case round =>
    obtain ⟨k, hk, rfl, rfl⟩ := hrel
    by_cases hlt : k < 4
    · go_wp2
      go_loopw [5, 6] (fun v i wr => ∃ j : Nat, j ≤ 64 ∧ i = .int .i64 ((j : Int) - 1) ∧ v = .int .u64 (encUp f k (64 - j)) ∧ wr = ((w.alloc (.cells (bcells f) 24)).alloc (.cells (ucells fun _ => 0) 23)).alloc (.cells (ucells (encTo f k)) 23)) (fun _ i _ => (intOf i + 1).toNat)
      case atStart => exact ⟨64, by omega, rfl, rfl, rfl⟩
      case round =>
        obtain ⟨j, hj, rfl, rfl, rfl⟩ := hrel
        cases j with
        | succ j =>
          have hb := bcells_get f (k * 64 + j) (by omega)
          obtain ⟨hv0, hv1⟩ := encUp_le63 f k (64 - (j + 1)) (by omega)
          rw [show (((j + 1 : Nat) : Int) - 1) = (j : Int) by omega]
          have HE : Hid (encUp f k (64 - j) = encUp f k (64 - (j + 1)) * 2 + (if f (k * 64 + j) then 1 else 0)) := by
            show encUp f k (64 - j) = _
            rw [show 64 - j = (64 - (j + 1)) + 1 by omega]
            conv => lhs; unfold encUp
            rw [show 63 - (64 - (j + 1)) = j by omega]
          generalize encUp f k (64 - (j + 1)) = E at *
          go_wp2
          · go_roundw
            case rel => exact ⟨j, by omega, rfl, by rw [HE.out, if_pos ‹_›], trivial⟩
            case measure => simp [intOf]
          · go_roundw
            case rel => exact ⟨j, by omega, rfl, by rw [HE.out, if_neg (by simp [*])]; go_num, trivial⟩
            case measure => simp [intOf]
        | zero =>
          have hu := ucells_get (encTo f k) k hlt
          go_wp2
          go_roundw
          case rel =>
            refine ⟨k + 1, by omega, by go_num, ?_⟩
            rw [ucells_set _ _ _ hlt, encTo_succ]
          case measure => simp [intOf]; omega
    · have hk4 : k = 4 := by omega
      subst hk4
      have h1 := heap3_new w (.cells (bcells f) 24) (.cells (ucells fun _ => 0) 23) (.cells (ucells (encTo f 4)) 23)
      have h2 := heap3_mid w (.cells (bcells f) 24) (.cells (ucells fun _ => 0) 23) (.cells (ucells (encTo f 4)) 23)
      go_wp2_with (first | refine wpList_load_row rfl 23 _ rfl _ rfl 23 _ (0, 0) _ h1 Try.underlying23 rfl (Try.size23 _) ?_ | (refine wpList_store_row rfl 23 _ _ rfl _ _ rfl rfl 23 _ h2 (Try.size23 _) (by rw [ucells_size, ucells_size]) (ucells_one _) ?_; rw [setRow3_mid]))
      exact bodyPost_ret (v := .agg (ucells (encTo f 4))) (results_cell_row Try.results12 _ _ (w.heap.size + 1) 23 _ (0, 0) _ rfl (heap3_mid _ _ _ _) Try.underlying23 rfl (Try.size23 _)) rfl ⟨rfl, rfl⟩

end Go.Proofs.Qxb6604363a
