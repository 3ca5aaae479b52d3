/-
  (*byteSet).addRange and its door, walked; the plain laws of a range.
-/
import Derived.Test.Qxb6604363aCount
import Derived.Deep.Draws
namespace Go.Proofs.Qxb6604363a
open Go.RowKit

/-- The set g with the n bytes from lo on inserted. -/
def addN (g : Nat → Int) (lo : Int) : Nat → Nat → Int
  | 0 => g
  | n + 1 => insG (addN g lo n) (lo + n)
/-- How many bytes the range holds. -/
def width (lo hi : Int) : Nat := (hi - lo + 1).toNat
theorem addN_bound (g : Nat → Int) (lo : Int) (hg : ∀ i, 0 ≤ g i ∧ g i < 18446744073709551616) : ∀ n i, 0 ≤ addN g lo n i ∧ addN g lo n i < 18446744073709551616
  | 0 => hg
  | n + 1 => insG_bound _ _ (addN_bound g lo hg n)
theorem bitAt_addN (g : Nat → Int) (lo : Int) (h0 : 0 ≤ lo) (hg : ∀ i, 0 ≤ g i ∧ g i < 18446744073709551616) (i : Nat) : ∀ n : Nat, bitAt (addN g lo n) i = (bitAt g i || decide (lo ≤ i ∧ (i : Int) < lo + n))
  | 0 => by
    have : ¬ (lo ≤ i ∧ (i : Int) < lo + (0 : Nat)) := by omega
    rw [decide_eq_false this, Bool.or_false]
    rfl
  | n + 1 => by
    rw [addN, bitAt_insG _ _ (by omega) (addN_bound g lo hg n), bitAt_addN g lo h0 hg i n, Bool.or_assoc]
    congr 1
    rw [Bool.eq_iff_iff]
    simp only [Bool.or_eq_true, decide_eq_true_eq]
    omega
theorem cnt_zero : cntTo (fun _ => 0) 4 = 0 := by decide +kernel
theorem cnt_addN (lo : Int) (h0 : 0 ≤ lo) : ∀ n : Nat, lo + n ≤ 256 → cntTo (addN (fun _ => 0) lo n) 4 = n
  | 0, _ => cnt_zero
  | n + 1, h => by
    have hz : ∀ i : Nat, (0 : Int) ≤ (fun _ : Nat => (0 : Int)) i ∧ (fun _ : Nat => (0 : Int)) i < 18446744073709551616 := fun _ => by simp
    rw [addN, cnt_ins _ _ (by omega) (addN_bound _ lo hz n) 4 (by omega), cnt_addN lo h0 n (by omega), bitAt_addN _ lo h0 hz]
    have e1 : ¬ (lo ≤ ((lo + n).toNat : Int) ∧ ((lo + n).toNat : Int) < lo + n) := by omega
    have e2 : bitAt (fun _ => 0) (lo + n).toNat = false := by simp [bitAt]
    rw [decide_eq_false e1, e2]
    simp
theorem addN_add (g : Nat → Int) (lo : Int) (k : Nat) : ∀ m : Nat, addN (addN g lo k) (lo + k) m = addN g lo (k + m)
  | 0 => rfl
  | m + 1 => by
    rw [addN, addN_add g lo k m, ← Nat.add_assoc, addN]
    congr 1
    omega

set_option maxHeartbeats 1000000 in
theorem addRange_any (b : Nat) (g : Nat → Int) (t : TypeId) (lo hi : Int) (w : World) (hl0 : 0 ≤ lo) (hl1 : lo < 256) (hh0 : 0 ≤ hi) (hh1 : hi < 256) (hb : w.heap[b]? = some (.cells (ucells g) t (0, 0))) :
    Calls Try.prog 40 #[.pointer (some ⟨b, 0, none⟩), .int .u8 lo, .int .u8 hi] w fun e w' => e = .returned (.tuple #[]) ∧ ∃ k, w' = (w.setRow b (ucells (addN g lo (width lo hi)))).drewN k := by
  have HB : Hid (w.heap[b]? = some (.cells (ucells g) t (0, 0))) := hb
  clear hb
  go_enter Try.func40, Try.ntmps40
  go_wp2
  go_loopw [6] (fun i wr => ∃ n k : Nat, n ≤ width lo hi ∧ i = .int .i64 (lo + n) ∧ wr = (w.setRow b (ucells (addN g lo n))).drewN k) (fun i _ => (hi + 1 - intOf i).toNat)
  case atStart => exact ⟨0, 0, by omega, by simp, by rw [addN, setRow_self w b _ t _ HB.out]; rfl⟩
  case round =>
    obtain ⟨n, k, hn, rfl, rfl⟩ := hrel
    have hw : width lo hi = (hi - lo + 1).toNat := rfl
    have HW : Hid (width lo hi = (hi - lo + 1).toNat) := hw
    by_cases hlt : lo + n ≤ hi
    · have h1 : 0 ≤ lo + n := by omega
      have h2 : lo + n < 256 := by omega
      rw [hw] at hn
      clear hw
      have hb2 : ((w.setRow b (ucells (addN g lo n))).drewN k).heap[b]? = some (.cells (ucells (addN g lo n)) t (0, 0)) := setRow_heap w b _ _ t _ HB.out
      have HB2 : Hid _ := hb2
      clear hb2
      go_wp2_with fail
      refine (add_any b (addN g lo n) t (lo + n) _ h1 h2 HB2.out).mono ?_
      rintro e w' ⟨rfl, rfl⟩
      go_wp2
      go_roundw
      case rel =>
        refine ⟨n + 1, k + 1, by rw [HW.out]; omega, by go_num, ?_⟩
        show (((w.setRow b (ucells (addN g lo n))).setRow b (ucells (insG (addN g lo n) (lo + n)))).drewN k).drew = _
        rw [setRow_setRow]
        rfl
      case measure => simp [intOf]; omega
    · have hn' : n = width lo hi := by omega
      clear hw
      subst hn'
      go_wp2
      go_end0
      exact ⟨rfl, k, rfl⟩

set_option maxHeartbeats 400000 in
theorem zzAddRange_any (b : Nat) (g : Nat → Int) (t : TypeId) (lo hi : Int) (w : World) (hl0 : 0 ≤ lo) (hl1 : lo < 256) (hh0 : 0 ≤ hi) (hh1 : hi < 256) (hb : w.heap[b]? = some (.cells (ucells g) t (0, 0))) :
    Calls Try.prog 16 #[.pointer (some ⟨b, 0, none⟩), .int .u8 lo, .int .u8 hi] w fun e w' => e = .returned (.tuple #[]) ∧ ∃ k, w' = (w.setRow b (ucells (addN g lo (width lo hi)))).drewN k := by
  have HB : Hid (w.heap[b]? = some (.cells (ucells g) t (0, 0))) := hb
  clear hb
  go_enter Try.func16, Try.ntmps16
  go_wp2_with (go_at_call 40; refine (addRange_any b g t lo hi _ hl0 hl1 hh0 hh1 HB.out).mono ?_; rintro e w' ⟨rfl, k, rfl⟩)
  go_end0
  exact ⟨rfl, k, rfl⟩

/-- What a caller wants of addRange: the one block turned, all else as it was. -/
theorem zzAddRange_call (b : Nat) (g : Nat → Int) (t : TypeId) (lo hi : Int) (w : World) (hl0 : 0 ≤ lo) (hl1 : lo < 256) (hh0 : 0 ≤ hi) (hh1 : hi < 256) (hb : w.heap[b]? = some (.cells (ucells g) t (0, 0))) :
    Calls Try.prog 16 #[.pointer (some ⟨b, 0, none⟩), .int .u8 lo, .int .u8 hi] w fun e w' => e = .returned (.tuple #[]) ∧ w'.heap[b]? = some (.cells (ucells (addN g lo (width lo hi))) t (0, 0)) ∧
      (∀ i, i ≠ b → w'.heap[i]? = w.heap[i]?) ∧ w'.heap.size = w.heap.size ∧ Below b w w' :=
  (zzAddRange_any b g t lo hi w hl0 hl1 hh0 hh1 hb).mono fun _ _ ⟨h1, k, h2⟩ => by
    subst h2
    exact ⟨h1, setRow_heap w b _ _ t _ hb, fun i hi => setRow_other w b i _ hi, by simp, ⟨rfl, rfl, rfl, by simp, fun i hi => setRow_other w b i _ (by omega)⟩⟩
end Go.Proofs.Qxb6604363a
