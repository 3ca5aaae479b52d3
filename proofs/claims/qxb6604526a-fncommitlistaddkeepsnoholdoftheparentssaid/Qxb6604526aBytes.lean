/-
  zzCommitBytes and the two zzBytes_.., walked.
-/
import Derived.Test.Qxb6604526aMem
namespace Go.Proofs.Qxb6604526a
open Go.RowKit

/-- How many parents the first k commits have. -/
def sumNp (c : Nat → Com) : Nat → Nat
  | 0 => 0
  | k + 1 => sumNp c k + (c k).np
theorem sumNp_le (c : Nat → Com) {j k : Nat} (h : j ≤ k) : sumNp c j ≤ sumNp c k := by
  induction k with
  | zero => rw [Nat.le_zero.1 h]; exact Nat.le_refl _
  | succ k ih =>
    by_cases e : j = k + 1
    · rw [e]; exact Nat.le_refl _
    · exact Nat.le_trans (ih (by omega)) (by simp [sumNp])
/-- What zzCommitBytes hands back: where it is at most 1<<20 the commits are few. -/
def BytesRet (n : Nat) (c : Nat → Com) (e : Ending) : Prop := ∃ r : Int, e = .returned (.int .i64 r) ∧ (r ≤ 1048576 → n ≤ 65536 ∧ 104 * n + 33 * sumNp c n ≤ 1048576)
theorem BytesRet.big (n : Nat) (c : Nat → Com) : BytesRet n c (.returned (.int .i64 2097152)) := ⟨_, rfl, fun h => by omega⟩

set_option maxRecDepth 10000 in
set_option maxHeartbeats 1000000 in
/-- zzCommitBytes. -/
theorem comBytes_any (v : Value) (n : Nat) (c : Nat → Com) (w : World) (hv : ComsIn (· < w.heap.size) w v n c) (hn : n ≤ 9223372036854775807) (hok : ∀ i, i < n → (c i).np ≤ 9223372036854775807) :
    Calls Try.prog 21 #[v] w fun e w' => BytesRet n c e ∧ w' = w := by
  obtain ⟨ao, cap, rfl, hnil, hcs⟩ := hv
  by_cases hbig : n ≤ 65536
  · go_enter Try.func21, Try.ntmps21
    go_wp2
    go_loop [3, 4] (fun t i => ∃ k : Nat, k ≤ n ∧ i = .int .i64 k ∧ 104 * k + 33 * sumNp c k ≤ 1048576 ∧ t = .int .i64 (104 * k + 33 * sumNp c k : Nat)) (fun _ i => n - (intOf i).toNat)
    case atStart => exact ⟨0, by omega, rfl, by simp [sumNp], by simp [sumNp]⟩
    case round =>
      obtain ⟨k, hk, rfl, hs, rfl⟩ := hrel
      by_cases hlt : k < n
      · obtain ⟨b, off, rfl, hbB, hrow⟩ := hcs (by omega)
        obtain ⟨pv, hr, hp⟩ := hrow k hlt
        have hpv := com_pv hr
        obtain ⟨ao', cap', rfl, _, _⟩ := hp
        have hq := hok k hlt
        have HS : Hid (sumNp c (k + 1) = sumNp c k + (c k).np) := rfl
        clear hcs hrow hr hok
        generalize sumNp c k = S at *
        by_cases h1 : (c k).np ≤ 1048576
        · by_cases h2 : 104 * k + 33 * S + (104 + 33 * (c k).np) ≤ 1048576
          · go_wp2
            go_round
            case rel => exact ⟨k + 1, by omega, by go_num, by rw [HS.out]; omega, by rw [HS.out]; go_num⟩
            case measure => simp [intOf]; omega
          · go_wp2
            go_ret
            exact ⟨BytesRet.big n c, rfl⟩
        · go_wp2
          go_ret
          exact ⟨BytesRet.big n c, rfl⟩
      · have hkn : k = n := by omega
        subst hkn
        go_wp2
        go_ret
        exact ⟨⟨_, rfl, fun _ => ⟨hbig, hs⟩⟩, rfl⟩
  · go_enter Try.func21, Try.ntmps21
    go_wp2
    go_ret
    exact ⟨BytesRet.big n c, rfl⟩

set_option maxRecDepth 10000 in
set_option maxHeartbeats 2000000 in
/-- zzBytes_FnCommitListAddLaysOutEveryCommit. -/
theorem zzBytesA_any (v : Value) (n : Nat) (c : Nat → Com) (w : World) (hv : ComsIn (· < w.heap.size) w v n c) (hn : n ≤ 9223372036854775807) (hok : ∀ i, i < n → (c i).np ≤ 9223372036854775807) :
    Calls Try.prog 20 #[v] w fun e w' => RetBool e ∧ Below w.heap.size w w' := by
  obtain ⟨ao, cap, rfl, hnil, hcs⟩ := hv
  by_cases hbig : n ≤ 1048576
  · go_enter Try.func20, Try.ntmps20
    go_wp2
    go_loop [3, 4] (fun t i => ∃ k : Nat, k ≤ n ∧ i = .int .i64 k ∧ ∃ s : Int, 0 ≤ s ∧ s ≤ 1048576 ∧ t = .int .i64 s) (fun _ i => n - (intOf i).toNat)
    case atStart => exact ⟨0, by omega, rfl, n, by omega, by omega, by simp⟩
    case round =>
      obtain ⟨k, hk, rfl, s, hs0, hs, rfl⟩ := hrel
      by_cases hlt : k < n
      · obtain ⟨b, off, rfl, hbB, hrow⟩ := hcs (by omega)
        obtain ⟨pv, hr, hp⟩ := hrow k hlt
        have hpv := com_pv hr
        obtain ⟨ao', cap', rfl, _, _⟩ := hp
        have hq := hok k hlt

        clear hcs hrow hr hok
        by_cases h1 : s + 32 ≤ 1048576
        · by_cases h2 : s + 64 ≤ 1048576
          · by_cases h3 : (c k).np ≤ 1048576
            · by_cases h4 : s + 64 + (c k).np ≤ 1048576
              · go_wp2
                go_loop [3, 5] (fun t i => ∃ j : Nat, j ≤ (c k).np ∧ i = .int .i64 j ∧ ∃ s : Int, 0 ≤ s ∧ s ≤ 1048576 ∧ t = .int .i64 s) (fun _ i => (c k).np - (intOf i).toNat)
                case atStart => exact ⟨0, by omega, rfl, s + 64 + (c k).np, by omega, by omega, by go_num⟩
                case round =>
                  obtain ⟨j, hj, rfl, s', hs0', hs', rfl⟩ := hrel
                  by_cases hjl : j < (c k).np
                  · by_cases h5 : s' + 32 ≤ 1048576
                    · go_wp2
                      go_round
                      case rel => exact ⟨j + 1, by omega, by go_num, s' + 32, by omega, by omega, by go_num⟩
                      case measure => simp [intOf]; omega
                    · go_wp2
                      go_ret
                      exact ⟨RetBool.mk _, Below.refl _ _⟩
                  · go_wp2
                    go_round
                    case rel => exact ⟨k + 1, by omega, by go_num, s', hs0', hs', rfl⟩
                    case measure => simp [intOf]; omega
              · go_wp2
                go_ret
                exact ⟨RetBool.mk _, Below.refl _ _⟩
            · go_wp2
              go_ret
              exact ⟨RetBool.mk _, Below.refl _ _⟩
          · go_wp2
            go_ret
            exact ⟨RetBool.mk _, Below.refl _ _⟩
        · go_wp2
          go_ret
          exact ⟨RetBool.mk _, Below.refl _ _⟩
      · go_wp2
        go_ret
        exact ⟨RetBool.mk _, Below.refl _ _⟩
  · go_enter Try.func20, Try.ntmps20
    go_wp2
    go_ret
    exact ⟨RetBool.mk _, Below.refl _ _⟩

set_option maxRecDepth 10000 in
set_option maxHeartbeats 2000000 in
/-- zzBytes_FnCommitListAddKeepsNoHoldOfTheParents. -/
theorem zzBytesB_any (v : Value) (n : Nat) (c : Nat → Com) (junk : Nat → Int) (w : World) (hv : ComsIn (· < w.heap.size) w v n c) (hn : n ≤ 9223372036854775807) (hok : ∀ i, i < n → (c i).np ≤ 9223372036854775807) :
    Calls Try.prog 28 #[v, .agg (row 33 junk)] w fun e w' => RetBool e ∧ Below w.heap.size w w' := by
  obtain ⟨ao, cap, rfl, hnil, hcs⟩ := hv
  by_cases hbig : n ≤ 1048576
  · go_enter Try.func28, Try.ntmps28
    go_wp2
    go_loop [5, 6] (fun t i => ∃ k : Nat, k ≤ n ∧ i = .int .i64 k ∧ ∃ s : Int, 0 ≤ s ∧ s ≤ 1048576 ∧ t = .int .i64 s) (fun _ i => n - (intOf i).toNat)
    case atStart => exact ⟨0, by omega, rfl, n, by omega, by omega, by simp⟩
    case round =>
      obtain ⟨k, hk, rfl, s, hs0, hs, rfl⟩ := hrel
      by_cases hlt : k < n
      · obtain ⟨b, off, rfl, hbB, hrow⟩ := hcs (by omega)
        obtain ⟨pv, hr, hp⟩ := hrow k hlt
        have hpv := com_pv hr
        obtain ⟨ao', cap', rfl, _, _⟩ := hp
        have hq := hok k hlt
        replace hpv := (World.cell?_alloc_lt w (.cells (row 33 junk) 53) ⟨b, off + k * 68 + 66, none⟩ hbB).trans hpv
        clear hcs hrow hr hok
        by_cases h1 : s + 32 ≤ 1048576
        · by_cases h2 : s + 64 ≤ 1048576
          · by_cases h3 : (c k).np ≤ 1048576
            · by_cases h4 : s + 64 + (c k).np ≤ 1048576
              · go_wp2
                go_loop [5, 7] (fun t i => ∃ j : Nat, j ≤ (c k).np ∧ i = .int .i64 j ∧ ∃ s : Int, 0 ≤ s ∧ s ≤ 1048576 ∧ t = .int .i64 s) (fun _ i => (c k).np - (intOf i).toNat)
                case atStart => exact ⟨0, by omega, rfl, s + 64 + (c k).np, by omega, by omega, by go_num⟩
                case round =>
                  obtain ⟨j, hj, rfl, s', hs0', hs', rfl⟩ := hrel
                  by_cases hjl : j < (c k).np
                  · by_cases h5 : s' + 32 ≤ 1048576
                    · go_wp2
                      go_round
                      case rel => exact ⟨j + 1, by omega, by go_num, s' + 32, by omega, by omega, by go_num⟩
                      case measure => simp [intOf]; omega
                    · go_wp2
                      go_ret
                      exact ⟨RetBool.mk _, (Below.refl _ _).alloc (Nat.le_refl _) _⟩
                  · go_wp2
                    go_round
                    case rel => exact ⟨k + 1, by omega, by go_num, s', hs0', hs', rfl⟩
                    case measure => simp [intOf]; omega
              · go_wp2
                go_ret
                exact ⟨RetBool.mk _, (Below.refl _ _).alloc (Nat.le_refl _) _⟩
            · go_wp2
              go_ret
              exact ⟨RetBool.mk _, (Below.refl _ _).alloc (Nat.le_refl _) _⟩
          · go_wp2
            go_ret
            exact ⟨RetBool.mk _, (Below.refl _ _).alloc (Nat.le_refl _) _⟩
        · go_wp2
          go_ret
          exact ⟨RetBool.mk _, (Below.refl _ _).alloc (Nat.le_refl _) _⟩
      · go_wp2
        go_ret
        exact ⟨RetBool.mk _, (Below.refl _ _).alloc (Nat.le_refl _) _⟩
  · go_enter Try.func28, Try.ntmps28
    go_wp2
    go_ret
    exact ⟨RetBool.mk _, (Below.refl _ _).alloc (Nat.le_refl _) _⟩
end Go.Proofs.Qxb6604526a
