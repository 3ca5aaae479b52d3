/-
  slices.IndexFunc, ContainsFunc at the two closures, walked.
-/
import Derived.Test.Qxb6602723aClone
namespace Go.Proofs.Qxb6602723a
open Go.RowKit

/-- The closure g tells the empty pieces. -/
def Tells (g : FuncId) : Prop := ∀ (a : Option Addr) (n cap : Nat) (w : World), Calls Try.prog g #[.slice a n cap] w fun e w' => e = .returned (.bool (n == 0)) ∧ w' = w
theorem int_zero (n : Nat) : ((n : Int) == 0) = (n == 0) := by
  rw [Bool.eq_iff_iff]
  simp
theorem tells22 : Tells 22 := by
  intro a n cap w
  go_enter Try.func22, Try.ntmps22
  go_wp2
  go_ret
  exact ⟨congrArg (fun b => Ending.returned (.bool b)) (int_zero n), rfl⟩
theorem tells25 : Tells 25 := by
  intro a n cap w
  go_enter Try.func25, Try.ntmps25
  go_wp2
  go_ret
  exact ⟨congrArg (fun b => Ending.returned (.bool b)) (int_zero n), rfl⟩
/-- The first empty piece, or -1. -/
def IdxRet (n : Nat) (x : Nat → Pc) (e : Ending) : Prop := ∃ r : Int, e = .returned (.int .i64 r) ∧ ((r = -1 ∧ ∀ i, i < n → (x i).n ≠ 0) ∨ ∃ k : Nat, r = k ∧ k < n ∧ (x k).n = 0 ∧ ∀ i, i < k → (x i).n ≠ 0)
set_option maxRecDepth 10000 in
set_option maxHeartbeats 1000000 in
theorem indexFunc22_any (v : Value) (n : Nat) (x : Nat → Pc) (w : World) (hv : PcsIn (· < w.heap.size) w v n x) (hn : (n : Int) ≤ 65536) :
    Calls Try.prog 26 #[v, .func (.func 22) #[] #[]] w fun e w' => IdxRet n x e ∧ w' = w := by
  obtain ⟨ao, cap, rfl, hnil, hcs⟩ := hv
  have HC : Hid (0 < n → ∃ b off, ao = some ⟨b, off, none⟩ ∧ b < w.heap.size ∧ ∀ i, i < n → w.cell? ⟨b, off + i, none⟩ = some (x i).v) := hcs
  clear hcs hnil
  go_enter Try.func26, Try.ntmps26
  go_wp2
  go_loop [8] (fun i => ∃ k : Nat, k ≤ n ∧ i = .int .i64 k ∧ ∀ j, j < k → (x j).n ≠ 0) (fun i => n - (intOf i).toNat)
  case atStart => exact ⟨0, by omega, rfl, fun j hj => absurd hj (by omega)⟩
  case round =>
    obtain ⟨k, hk, rfl, hall⟩ := hrel
    have HA : Hid (∀ j, j < k → (x j).n ≠ 0) := hall
    clear hall
    by_cases hlt : k < n
    · obtain ⟨b, off, rfl, hbB, hrow⟩ := HC.out (by omega)
      have hc := hrow k hlt
      unfold Pc.v at hc
      clear hrow
      go_wp2_with (fail)
      refine (tells22 _ _ _ _).mono ?_
      rintro e w1 ⟨rfl, rfl⟩
      by_cases h0 : (x k).n = 0
      · have HZ : Hid ((x k).n = 0) := h0
        rw [h0]
        clear h0 hc
        go_wp2_with (fail)
        go_ret
        exact ⟨⟨_, rfl, Or.inr ⟨k, rfl, hlt, HZ.out, HA.out⟩⟩, rfl⟩
      · have HZ : Hid ((x k).n ≠ 0) := h0
        rw [show ((x k).n == 0) = false by simpa using h0]
        clear h0 hc
        go_wp2_with (fail)
        go_round
        case rel => exact ⟨k + 1, by omega, by go_num, fun j hj => by
          by_cases ej : j = k
          · subst ej; exact HZ.out
          · exact HA.out j (by omega)⟩
        case measure => simp [intOf]; omega
    · obtain rfl : k = n := by omega
      go_wp2_with (fail)
      go_ret
      exact ⟨⟨_, rfl, Or.inl ⟨rfl, HA.out⟩⟩, rfl⟩
set_option maxRecDepth 10000 in
set_option maxHeartbeats 1000000 in
theorem indexFunc25_any (v : Value) (n : Nat) (x : Nat → Pc) (w : World) (hv : PcsIn (· < w.heap.size) w v n x) (hn : (n : Int) ≤ 65536) :
    Calls Try.prog 26 #[v, .func (.func 25) #[] #[]] w fun e w' => IdxRet n x e ∧ w' = w := by
  obtain ⟨ao, cap, rfl, hnil, hcs⟩ := hv
  have HC : Hid (0 < n → ∃ b off, ao = some ⟨b, off, none⟩ ∧ b < w.heap.size ∧ ∀ i, i < n → w.cell? ⟨b, off + i, none⟩ = some (x i).v) := hcs
  clear hcs hnil
  go_enter Try.func26, Try.ntmps26
  go_wp2
  go_loop [8] (fun i => ∃ k : Nat, k ≤ n ∧ i = .int .i64 k ∧ ∀ j, j < k → (x j).n ≠ 0) (fun i => n - (intOf i).toNat)
  case atStart => exact ⟨0, by omega, rfl, fun j hj => absurd hj (by omega)⟩
  case round =>
    obtain ⟨k, hk, rfl, hall⟩ := hrel
    have HA : Hid (∀ j, j < k → (x j).n ≠ 0) := hall
    clear hall
    by_cases hlt : k < n
    · obtain ⟨b, off, rfl, hbB, hrow⟩ := HC.out (by omega)
      have hc := hrow k hlt
      unfold Pc.v at hc
      clear hrow
      go_wp2_with (fail)
      refine (tells25 _ _ _ _).mono ?_
      rintro e w1 ⟨rfl, rfl⟩
      by_cases h0 : (x k).n = 0
      · have HZ : Hid ((x k).n = 0) := h0
        rw [h0]
        clear h0 hc
        go_wp2_with (fail)
        go_ret
        exact ⟨⟨_, rfl, Or.inr ⟨k, rfl, hlt, HZ.out, HA.out⟩⟩, rfl⟩
      · have HZ : Hid ((x k).n ≠ 0) := h0
        rw [show ((x k).n == 0) = false by simpa using h0]
        clear h0 hc
        go_wp2_with (fail)
        go_round
        case rel => exact ⟨k + 1, by omega, by go_num, fun j hj => by
          by_cases ej : j = k
          · subst ej; exact HZ.out
          · exact HA.out j (by omega)⟩
        case measure => simp [intOf]; omega
    · obtain rfl : k = n := by omega
      go_wp2_with (fail)
      go_ret
      exact ⟨⟨_, rfl, Or.inl ⟨rfl, HA.out⟩⟩, rfl⟩
/-- Is there an empty piece? -/
def HasRet (n : Nat) (x : Nat → Pc) (e : Ending) : Prop := (e = .returned (.bool false) ∧ ∀ i, i < n → (x i).n ≠ 0) ∨ (e = .returned (.bool true) ∧ ∃ k, k < n ∧ (x k).n = 0)
set_option maxRecDepth 10000 in
set_option maxHeartbeats 1000000 in
theorem containsFunc_any (v : Value) (n : Nat) (x : Nat → Pc) (w : World) (hv : PcsIn (· < w.heap.size) w v n x) (hn : (n : Int) ≤ 65536) :
    Calls Try.prog 21 #[v, .func (.func 22) #[] #[]] w fun e w' => HasRet n x e ∧ w' = w := by
  have HV : Hid (PcsIn (· < w.heap.size) w v n x) := hv
  obtain ⟨ao, cap, rfl, _, _⟩ := hv
  go_enter Try.func21, Try.ntmps21
  go_wp2_with (fail)
  refine (indexFunc22_any _ n x w HV.out hn).mono ?_
  rintro e w1 ⟨⟨r, rfl, hr⟩, rfl⟩
  rcases hr with ⟨rfl, hall⟩ | ⟨k, rfl, hk, h0, _⟩
  · have HA : Hid (∀ i, i < n → (x i).n ≠ 0) := hall
    clear hall
    go_wp2_with (fail)
    go_ret
    exact ⟨Or.inl ⟨rfl, HA.out⟩, rfl⟩
  · have HZ : Hid ((x k).n = 0) := h0
    clear h0
    go_wp2_with (fail)
    go_ret
    exact ⟨Or.inr ⟨rfl, k, hk, HZ.out⟩, rfl⟩
end Go.Proofs.Qxb6602723a
