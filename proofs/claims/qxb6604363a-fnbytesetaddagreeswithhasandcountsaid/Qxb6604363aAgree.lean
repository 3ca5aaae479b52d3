/-
  FnByteSetAddAgreesWithHasAndCount, walked.
-/
import Derived.Test.Qxb6604363aCount
namespace Go.Proofs.Qxb6604363a
open Go.RowKit

set_option maxRecDepth 10000 in
set_option maxHeartbeats 1000000 in
theorem agree_walk (g : Nat → Int) (c : Int) (hg : ∀ i, 0 ≤ g i ∧ g i < 18446744073709551616) (hc0 : 0 ≤ c) (hc1 : c < 256) (w : World) :
    Calls Try.prog 4 #[.agg (ucells g), .int .u8 c] w fun e w' => e = .returned (.bool true) ∧ Below w.heap.size w w' := by
  go_enter Try.func4, Try.ntmps4
  have n0 := heap_alloc_new w (.cells (ucells g) 23)
  go_wp2_with (first
    | (refine wpList_load_row rfl 23 _ rfl _ rfl 23 _ (0, 0) _ n0 Try.underlying23 rfl (Try.size23 _) ?_)
    | (refine wpList_store_row rfl 23 _ _ rfl _ (ucells g) rfl rfl 23 _ (heap_alloc2_new w _ _) (Try.size23 _) rfl (ucells_one _) ?_; rw [setRow2_new]))
  have m0 := heap_alloc2_old w (.cells (ucells g) 23) (.cells (ucells g) 23)
  have m1 := heap_alloc2_new w (.cells (ucells g) 23) (.cells (ucells g) 23)
  have hb1 : Below w.heap.size w ((w.alloc (.cells (ucells g) 23)).alloc (.cells (ucells g) 23)) := ((Below.refl _ _).alloc (Nat.le_refl _) _).alloc (by simp) _
  have hs1 : w.heap.size + 1 < ((w.alloc (.cells (ucells g) 23)).alloc (.cells (ucells g) 23)).heap.size := by simp
  generalize (w.alloc (.cells (ucells g) 23)).alloc (.cells (ucells g) 23) = w1 at *
  clear n0
  refine (zzHas_any _ g 23 c _ hc0 hc1 hg m1).mono ?_
  rintro e w1' ⟨rfl, rfl⟩
  go_wp2_with fail
  refine (zzCount_any _ g 23 _ hg m1).mono ?_
  rintro e w2 ⟨rfl, rfl⟩
  have p0 := heap_alloc_old w2 (.cells (ucells g) 23) (show w.heap.size < w2.heap.size by omega)
  have p1 := heap_alloc_old w2 (.cells (ucells g) 23) (show w.heap.size + 1 < w2.heap.size by omega)
  go_wp2_with (first
    | (refine wpList_load_row rfl 23 _ rfl _ rfl 23 _ (0, 0) _ m0 Try.underlying23 rfl (Try.size23 _) ?_)
    | (refine wpList_store_row rfl 23 _ _ rfl _ (ucells g) rfl rfl 23 _ (heap_alloc_new w2 _) (Try.size23 _) rfl (ucells_one _) ?_; rw [World.setRow_alloc_new]))
  refine (zzAdd_any _ g 23 c _ hc0 hc1 (heap_alloc_new w2 _)).mono ?_
  rintro e w3 ⟨rfl, rfl⟩
  rw [World.setRow_alloc_new]
  have q1 : (w2.alloc (.cells (ucells (insG g c)) 23)).drew.heap[w.heap.size + 1]? = some (.cells (ucells g) 23 (0, 0)) := (heap_alloc_old w2 _ (by omega)).trans m1
  have q2 : (w2.alloc (.cells (ucells (insG g c)) 23)).drew.heap[w2.heap.size]? = some (.cells (ucells (insG g c)) 23 (0, 0)) := heap_alloc_new w2 _
  have hb3 : Below w.heap.size w (w2.alloc (.cells (ucells (insG g c)) 23)).drew := (hb1.alloc (by omega) _).drew
  have hs3 : w2.heap.size < (w2.alloc (.cells (ucells (insG g c)) 23)).drew.heap.size := by simp
  generalize (w2.alloc (.cells (ucells (insG g c)) 23)).drew = w3 at *
  clear p0 p1 m0 m1 hb1
  have hgi := insG_bound g c hg
  generalize hbu : w.heap.size + 1 = bu at *
  generalize hbt : w2.heap.size = bt at *
  go_wp2_with fail
  refine (zzHas_any _ (insG g c) 23 c _ hc0 hc1 hgi q2).mono ?_
  rintro e w4 ⟨rfl, rfl⟩
  have hh : bitAt (insG g c) c.toNat = true := by rw [bitAt_insG g c hc0 hg]; simp
  go_wp2
  clear hh
  go_loop [9] (fun i => ∃ k : Nat, k ≤ 256 ∧ i = .int .i64 k) (fun i => 256 - (intOf i).toNat)
  case atStart => exact ⟨0, by omega, rfl⟩
  case round =>
    obtain ⟨k, hk, rfl⟩ := hrel
    by_cases hlt : k < 256
    · by_cases hkc : (k : Int) = c
      · have hne : ((k : Int) != c) = false := by rw [hkc]; simp
        have HK : Hid ((k : Int) = c) := hkc
        clear hkc
        go_wp2_with fail
        go_round
        case rel => exact ⟨k + 1, by omega, by go_num⟩
        case measure => simp [intOf]; omega
      · have hne : ((k : Int) != c) = true := by simp [hkc]
        have HB : Hid (bitAt (insG g c) ((k : Int)).toNat = bitAt g ((k : Int)).toNat) := by
          show bitAt (insG g c) ((k : Int)).toNat = _
          rw [bitAt_insG g c hc0 hg]
          rw [decide_eq_false (show ¬ ((k : Int)).toNat = c.toNat by omega), Bool.or_false]
        clear hkc
        go_wp2_with fail
        refine (zzHas_any _ (insG g c) 23 k _ (by omega) (by omega) hgi q2).mono ?_
        rintro e w5 ⟨rfl, rfl⟩
        rw [HB.out]
        go_wp2_with fail
        refine (zzHas_any _ g 23 k _ (by omega) (by omega) hg q1).mono ?_
        rintro e w6 ⟨rfl, rfl⟩
        go_wp2
        go_round
        case rel => exact ⟨k + 1, by omega, by go_num⟩
        case measure => simp [intOf]; omega
    · obtain ⟨c0, c1⟩ := cntTo_bound g hg 4
      have HC := cnt_ins g c hc0 hg 4 (by omega)
      have he : ∀ w, (Op.equalIn 10000 23 (.agg (ucells (insG g c))) (.agg (ucells (insG g c)))).run Try.prog w = .ok true w := fun w => by rw [run_eq23, eqU_same]
      have r1 : (w4.alloc (.cells (ucells (insG g c)) 23)).drew.heap[w4.heap.size]? = some (.cells (ucells (insG g c)) 23 (0, 0)) := heap_alloc_new w4 _
      have r2 : (w4.alloc (.cells (ucells (insG g c)) 23)).drew.heap[bt]? = some (.cells (ucells (insG g c)) 23 (0, 0)) := (heap_alloc_old w4 _ hs3).trans q2
      have hb4 : Below w.heap.size w (w4.alloc (.cells (ucells (insG g c)) 23)).drew := (hb3.alloc (by omega) _).drew
      cases hbit : bitAt g c.toNat
      all_goals
        rw [hbit] at HC
        simp only [Bool.false_eq_true, if_false, if_true, Int.add_zero] at HC
        have HC' : Hid (cntTo (insG g c) 4 = _) := HC
        clear HC
        generalize cntTo g 4 = N at *
        go_wp2_with fail
        refine (zzCount_any _ (insG g c) 23 _ hgi q2).mono ?_
        rintro e w5 ⟨rfl, rfl⟩
        rw [HC'.out]
        clear HC'
        go_wp2_with (first
          | (refine wpList_load_row rfl 23 _ rfl _ rfl 23 (ucells (insG g c)) (0, 0) _ ?_ Try.underlying23 rfl (Try.size23 _) ?_; · first | exact q2 | exact r1 | exact r2)
          | (refine wpList_store_row rfl 23 _ _ rfl _ (ucells (insG g c)) rfl rfl 23 _ (heap_alloc_new w5 _) (Try.size23 _) rfl (ucells_one _) ?_; rw [World.setRow_alloc_new]))
        refine (zzAdd_any _ (insG g c) 23 c _ hc0 hc1 (heap_alloc_new w5 _)).mono ?_
        rintro e w6 ⟨rfl, rfl⟩
        rw [World.setRow_alloc_new, insG_idem g c hg]
        generalize (w5.alloc (.cells (ucells (insG g c)) 23)).drew = w6 at *
        go_wp2_with (refine wpList_load_row rfl 23 _ rfl _ rfl 23 (ucells (insG g c)) (0, 0) _ ?_ Try.underlying23 rfl (Try.size23 _) ?_; · first | exact r1 | exact r2)
        go_ret
        exact ⟨rfl, hb4⟩
end Go.Proofs.Qxb6604363a
