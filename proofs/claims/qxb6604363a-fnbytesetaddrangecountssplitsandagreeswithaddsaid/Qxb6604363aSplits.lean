/-
  FnByteSetAddRangeCountsSplitsAndAgreesWithAdd, walked: three cases, one walk each.
-/
import Derived.Test.Qxb6604363aRange
namespace Go.Proofs.Qxb6604363a
open Go.RowKit

theorem zero_bound : ∀ i : Nat, (0 : Int) ≤ (fun _ : Nat => (0 : Int)) i ∧ (fun _ : Nat => (0 : Int)) i < 18446744073709551616 := fun _ => by simp
theorem bit_empty (lo hi x : Int) (h0 : 0 ≤ lo) (hx : 0 ≤ x) (hw : x = lo ∨ x = hi) (hh : 0 ≤ hi) : bitAt (addN (fun _ => 0) lo (width lo hi)) x.toNat = decide (lo ≤ hi) := by
  rw [bitAt_addN _ lo h0 zero_bound]
  have e2 : bitAt (fun _ => 0) x.toNat = false := by simp [bitAt]
  rw [e2, Bool.false_or, decide_eq_decide]
  unfold width
  omega
theorem mid_split (g : Nat → Int) (lo hi : Int) (h : lo < hi) : addN (addN g lo (width lo (lo + (hi - lo) / 2))) (lo + (hi - lo) / 2 + 1) (width (lo + (hi - lo) / 2 + 1) hi) = addN g lo (width lo hi) := by
  have e := addN_add g lo (width lo (lo + (hi - lo) / 2)) (width (lo + (hi - lo) / 2 + 1) hi)
  rw [show lo + ((width lo (lo + (hi - lo) / 2) : Nat) : Int) = lo + (hi - lo) / 2 + 1 by unfold width; omega] at e
  rw [e]
  congr 1
  unfold width
  omega
theorem one_range (g : Nat → Int) (lo : Int) : addN g lo (width lo lo) = insG g lo := by
  rw [show width lo lo = 1 by unfold width; omega]
  simp [addN]

set_option maxRecDepth 10000 in
set_option maxHeartbeats 2000000 in
theorem splits_lt (g : Nat → Int) (lo hi : Int) (hl0 : 0 ≤ lo) (hl1 : lo < 256) (hh0 : 0 ≤ hi) (hh1 : hi < 256) (hlt : lo < hi) (w : World) :
    Calls Try.prog 6 #[.agg (ucells g), .int .u8 lo, .int .u8 hi] w fun e w' => e = .returned (.bool true) ∧ Below w.heap.size w w' := by
  have hle : lo ≤ hi := by omega
  go_enter Try.func6, Try.ntmps6
  go_wp2_with fail
  refine (zzAddRange_call _ (fun _ => 0) 23 lo hi _ hl0 hl1 hh0 hh1 (heap_alloc2_new w (.cells (ucells g) 23) (.cells (ucells fun _ => 0) 23))).mono ?_
  rintro e w1 ⟨rfl, e1, o1, z1, b1⟩
  have s1 : w1.heap[w.heap.size]? = some (.cells (ucells g) 23 (0, 0)) := (o1 _ (by omega)).trans (heap_alloc2_old w _ _)
  have l1 : Below w.heap.size w w1 := (((Below.refl _ _).alloc (Nat.le_refl _) _).alloc (by simp) _).trans (b1.mono (by omega))
  have y1 : w.heap.size + 1 < w1.heap.size := by rw [z1]; simp
  clear o1 z1 b1
  generalize hB0 : w.heap.size = B0 at *
  go_wp2_with fail
  refine (zzCount_any _ _ 23 _ (addN_bound _ lo zero_bound _) e1).mono ?_
  rintro e w2 ⟨rfl, rfl⟩
  rw [cnt_addN lo hl0 _ (by unfold width; omega)]
  rw [show ((width lo hi : Nat) : Int) = hi - lo + 1 by unfold width; omega]
  go_wp2_with fail
  refine (zzHas_any _ _ 23 lo _ hl0 hl1 (addN_bound _ lo zero_bound _) e1).mono ?_
  rintro e w3 ⟨rfl, rfl⟩
  rw [bit_empty lo hi lo hl0 hl0 (Or.inl rfl) hh0, decide_eq_true hle]
  go_wp2_with fail
  refine (zzHas_any _ _ 23 hi _ hh0 hh1 (addN_bound _ lo zero_bound _) e1).mono ?_
  rintro e w4 ⟨rfl, rfl⟩
  rw [bit_empty lo hi hi hl0 hh0 (Or.inr rfl) hh0, decide_eq_true hle]
  clear e1
  go_wp2_with (first
    | (refine wpList_load_row rfl 23 _ rfl _ rfl 23 _ (0, 0) _ s1 Try.underlying23 rfl (Try.size23 _) ?_)
    | (refine wpList_store_row rfl 23 _ _ rfl _ (ucells g) rfl rfl 23 _ (heap_alloc_new w4 _) (Try.size23 _) rfl (ucells_one _) ?_; rw [World.setRow_alloc_new]))
  refine (zzAddRange_call _ g 23 lo hi _ hl0 hl1 hh0 hh1 (heap_alloc_new w4 _)).mono ?_
  rintro e w5 ⟨rfl, e5, o5, z5, b5⟩
  have s5 : w5.heap[B0]? = some (.cells (ucells g) 23 (0, 0)) := (o5 _ (by omega)).trans ((heap_alloc_old w4 _ (by omega)).trans s1)
  have l5 : Below B0 w w5 := (l1.alloc (by omega) _).trans (b5.mono (by omega))
  have y5 : w4.heap.size < w5.heap.size := by rw [z5]; simp
  clear o5 z5 b5 s1 l1
  generalize hB2 : w4.heap.size = B2 at *
  go_wp2_with (first
    | (refine wpList_load_row rfl 23 _ rfl _ rfl 23 _ (0, 0) _ s5 Try.underlying23 rfl (Try.size23 _) ?_)
    | (refine wpList_store_row rfl 23 _ _ rfl _ (ucells g) rfl rfl 23 _ (heap_alloc_new w5 _) (Try.size23 _) rfl (ucells_one _) ?_; rw [World.setRow_alloc_new]))
  refine (zzAddRange_call _ g 23 lo (lo + (hi - lo) / 2) _ hl0 hl1 (by omega) (by omega) (heap_alloc_new w5 _)).mono ?_
  rintro e w6 ⟨rfl, e6, o6, z6, b6⟩
  have s6 : w6.heap[B0]? = some (.cells (ucells g) 23 (0, 0)) := (o6 _ (by omega)).trans ((heap_alloc_old w5 _ (by omega)).trans s5)
  have f6 : w6.heap[B2]? = some (.cells (ucells (addN g lo (width lo hi))) 23 (0, 0)) := (o6 _ (by omega)).trans ((heap_alloc_old w5 _ (by omega)).trans e5)
  have l6 : Below B0 w w6 := (l5.alloc (by omega) _).trans (b6.mono (by omega))
  have y6 : w5.heap.size < w6.heap.size := by rw [z6]; simp
  clear o6 z6 b6 s5 l5 e5
  generalize hB3 : w5.heap.size = B3 at *
  go_wp2_with fail
  refine (zzAddRange_call _ _ 23 (lo + (hi - lo) / 2 + 1) hi _ (by omega) (by omega) hh0 hh1 e6).mono ?_
  rintro e w7 ⟨rfl, e7, o7, z7, b7⟩
  rw [mid_split g lo hi hlt] at e7
  have s7 : w7.heap[B0]? = some (.cells (ucells g) 23 (0, 0)) := (o7 _ (by omega)).trans s6
  have f7 : w7.heap[B2]? = some (.cells (ucells (addN g lo (width lo hi))) 23 (0, 0)) := (o7 _ (by omega)).trans f6
  have l7 : Below B0 w w7 := l6.trans (b7.mono (by omega))
  have y7 : B0 + 1 < w7.heap.size := by rw [z7]; omega
  clear o7 z7 b7 s6 l6 e6 f6 y6
  have q7 : ∀ w, (Op.equalIn 10000 23 (.agg (ucells (addN g lo (width lo hi)))) (.agg (ucells (addN g lo (width lo hi))))).run Try.prog w = .ok true w := fun w => by rw [run_eq23, eqU_same]
  generalize addN g lo (width lo hi) = G at *
  go_wp2_with (first
    | (refine wpList_load_row rfl 23 _ rfl _ rfl 23 _ (0, 0) _ e7 Try.underlying23 rfl (Try.size23 _) ?_)
    | (refine wpList_load_row rfl 23 _ rfl _ rfl 23 _ (0, 0) _ f7 Try.underlying23 rfl (Try.size23 _) ?_)
    | (refine wpList_load_row rfl 23 _ rfl _ rfl 23 _ (0, 0) _ s7 Try.underlying23 rfl (Try.size23 _) ?_)
    | (refine wpList_store_row rfl 23 _ _ rfl _ (ucells g) rfl rfl 23 _ (heap_alloc_new w7 _) (Try.size23 _) rfl (ucells_one _) ?_; rw [World.setRow_alloc_new]))
  clear q7 e7 f7 y1 y5
  refine (zzAddRange_call _ g 23 lo lo _ hl0 hl1 hl0 hl1 (heap_alloc_new w7 _)).mono ?_
  rintro e w8 ⟨rfl, e8, o8, z8, b8⟩
  rw [one_range g lo] at e8
  have s8 : w8.heap[B0]? = some (.cells (ucells g) 23 (0, 0)) := (o8 _ (by omega)).trans ((heap_alloc_old w7 _ (by omega)).trans s7)
  have l8 : Below B0 w w8 := (l7.alloc (by omega) _).trans (b8.mono (by omega))
  have y8 : w7.heap.size < w8.heap.size := by rw [z8]; simp
  clear o8 z8 b8 s7 l7
  generalize hB8 : w7.heap.size = B8 at *
  go_wp2_with (first
    | (refine wpList_load_row rfl 23 _ rfl _ rfl 23 _ (0, 0) _ s8 Try.underlying23 rfl (Try.size23 _) ?_)
    | (refine wpList_store_row rfl 23 _ _ rfl _ (ucells g) rfl rfl 23 _ (heap_alloc_new w8 _) (Try.size23 _) rfl (ucells_one _) ?_; rw [World.setRow_alloc_new]))
  refine (zzAdd_any _ g 23 lo _ hl0 hl1 (heap_alloc_new w8 _)).mono ?_
  rintro e w9 ⟨rfl, rfl⟩
  rw [World.setRow_alloc_new]
  have r1 : (w8.alloc (.cells (ucells (insG g lo)) 23)).drew.heap[w8.heap.size]? = some (.cells (ucells (insG g lo)) 23 (0, 0)) := heap_alloc_new w8 _
  have r2 : (w8.alloc (.cells (ucells (insG g lo)) 23)).drew.heap[B8]? = some (.cells (ucells (insG g lo)) 23 (0, 0)) := (heap_alloc_old w8 _ (by omega)).trans e8
  have l9 : Below B0 w (w8.alloc (.cells (ucells (insG g lo)) 23)).drew := (l8.alloc (by omega) _).drew
  generalize (w8.alloc (.cells (ucells (insG g lo)) 23)).drew = w9 at *
  have q9 : ∀ w, (Op.equalIn 10000 23 (.agg (ucells (insG g lo))) (.agg (ucells (insG g lo)))).run Try.prog w = .ok true w := fun w => by rw [run_eq23, eqU_same]
  go_wp2_with (first
    | (refine wpList_load_row rfl 23 _ rfl _ rfl 23 _ (0, 0) _ r1 Try.underlying23 rfl (Try.size23 _) ?_)
    | (refine wpList_load_row rfl 23 _ rfl _ rfl 23 _ (0, 0) _ r2 Try.underlying23 rfl (Try.size23 _) ?_))
  go_ret
  exact ⟨rfl, by rw [hB0]; exact l9⟩

set_option maxRecDepth 10000 in
set_option maxHeartbeats 2000000 in
theorem splits_eq (g : Nat → Int) (lo hi : Int) (hl0 : 0 ≤ lo) (hl1 : lo < 256) (hh0 : 0 ≤ hi) (hh1 : hi < 256) (heq : lo = hi) (w : World) :
    Calls Try.prog 6 #[.agg (ucells g), .int .u8 lo, .int .u8 hi] w fun e w' => e = .returned (.bool true) ∧ Below w.heap.size w w' := by
  subst heq
  have hle : lo ≤ lo := Int.le_refl _
  go_enter Try.func6, Try.ntmps6
  go_wp2_with fail
  refine (zzAddRange_call _ (fun _ => 0) 23 lo lo _ hl0 hl1 hl0 hl1 (heap_alloc2_new w (.cells (ucells g) 23) (.cells (ucells fun _ => 0) 23))).mono ?_
  rintro e w1 ⟨rfl, e1, o1, z1, b1⟩
  have s1 : w1.heap[w.heap.size]? = some (.cells (ucells g) 23 (0, 0)) := (o1 _ (by omega)).trans (heap_alloc2_old w _ _)
  have l1 : Below w.heap.size w w1 := (((Below.refl _ _).alloc (Nat.le_refl _) _).alloc (by simp) _).trans (b1.mono (by omega))
  have y1 : w.heap.size + 1 < w1.heap.size := by rw [z1]; simp
  clear o1 z1 b1
  generalize hB0 : w.heap.size = B0 at *
  go_wp2_with fail
  refine (zzCount_any _ _ 23 _ (addN_bound _ lo zero_bound _) e1).mono ?_
  rintro e w2 ⟨rfl, rfl⟩
  rw [cnt_addN lo hl0 _ (by unfold width; omega)]
  rw [show ((width lo lo : Nat) : Int) = lo - lo + 1 by unfold width; omega]
  go_wp2_with fail
  refine (zzHas_any _ _ 23 lo _ hl0 hl1 (addN_bound _ lo zero_bound _) e1).mono ?_
  rintro e w3 ⟨rfl, rfl⟩
  rw [bit_empty lo lo lo hl0 hl0 (Or.inl rfl) hl0, decide_eq_true hle]
  go_wp2_with fail
  refine (zzHas_any _ _ 23 lo _ hl0 hl1 (addN_bound _ lo zero_bound _) e1).mono ?_
  rintro e w4 ⟨rfl, rfl⟩
  rw [bit_empty lo lo lo hl0 hl0 (Or.inr rfl) hl0, decide_eq_true hle]
  clear e1
  go_wp2_with (first
    | (refine wpList_load_row rfl 23 _ rfl _ rfl 23 _ (0, 0) _ s1 Try.underlying23 rfl (Try.size23 _) ?_)
    | (refine wpList_store_row rfl 23 _ _ rfl _ (ucells g) rfl rfl 23 _ (heap_alloc_new w4 _) (Try.size23 _) rfl (ucells_one _) ?_; rw [World.setRow_alloc_new]))
  refine (zzAddRange_call _ g 23 lo lo _ hl0 hl1 hl0 hl1 (heap_alloc_new w4 _)).mono ?_
  rintro e w5 ⟨rfl, e5, o5, z5, b5⟩
  have s5 : w5.heap[B0]? = some (.cells (ucells g) 23 (0, 0)) := (o5 _ (by omega)).trans ((heap_alloc_old w4 _ (by omega)).trans s1)
  have l5 : Below B0 w w5 := (l1.alloc (by omega) _).trans (b5.mono (by omega))
  have y5 : w4.heap.size < w5.heap.size := by rw [z5]; simp
  clear o5 z5 b5 s1 l1
  generalize hB2 : w4.heap.size = B2 at *
  have s7 := s5
  have l7 := l5
  have y7 : B0 + 1 < w5.heap.size := by omega
  clear s5 l5 e5
  go_wp2_with (first
    | (refine wpList_load_row rfl 23 _ rfl _ rfl 23 _ (0, 0) _ s7 Try.underlying23 rfl (Try.size23 _) ?_)
    | (refine wpList_store_row rfl 23 _ _ rfl _ (ucells g) rfl rfl 23 _ (heap_alloc_new w5 _) (Try.size23 _) rfl (ucells_one _) ?_; rw [World.setRow_alloc_new]))
  refine (zzAddRange_call _ g 23 lo lo _ hl0 hl1 hl0 hl1 (heap_alloc_new w5 _)).mono ?_
  rintro e w8 ⟨rfl, e8, o8, z8, b8⟩
  rw [one_range g lo] at e8
  have s8 : w8.heap[B0]? = some (.cells (ucells g) 23 (0, 0)) := (o8 _ (by omega)).trans ((heap_alloc_old w5 _ (by omega)).trans s7)
  have l8 : Below B0 w w8 := (l7.alloc (by omega) _).trans (b8.mono (by omega))
  have y8 : w5.heap.size < w8.heap.size := by rw [z8]; simp
  clear o8 z8 b8 s7 l7
  generalize hB8 : w5.heap.size = B8 at *
  go_wp2_with (first
    | (refine wpList_load_row rfl 23 _ rfl _ rfl 23 _ (0, 0) _ s8 Try.underlying23 rfl (Try.size23 _) ?_)
    | (refine wpList_store_row rfl 23 _ _ rfl _ (ucells g) rfl rfl 23 _ (heap_alloc_new w8 _) (Try.size23 _) rfl (ucells_one _) ?_; rw [World.setRow_alloc_new]))
  refine (zzAdd_any _ g 23 lo _ hl0 hl1 (heap_alloc_new w8 _)).mono ?_
  rintro e w9 ⟨rfl, rfl⟩
  rw [World.setRow_alloc_new]
  have r1 : (w8.alloc (.cells (ucells (insG g lo)) 23)).drew.heap[w8.heap.size]? = some (.cells (ucells (insG g lo)) 23 (0, 0)) := heap_alloc_new w8 _
  have r2 : (w8.alloc (.cells (ucells (insG g lo)) 23)).drew.heap[B8]? = some (.cells (ucells (insG g lo)) 23 (0, 0)) := (heap_alloc_old w8 _ (by omega)).trans e8
  have l9 : Below B0 w (w8.alloc (.cells (ucells (insG g lo)) 23)).drew := (l8.alloc (by omega) _).drew
  generalize (w8.alloc (.cells (ucells (insG g lo)) 23)).drew = w9 at *
  have q9 : ∀ w, (Op.equalIn 10000 23 (.agg (ucells (insG g lo))) (.agg (ucells (insG g lo)))).run Try.prog w = .ok true w := fun w => by rw [run_eq23, eqU_same]
  go_wp2_with (first
    | (refine wpList_load_row rfl 23 _ rfl _ rfl 23 _ (0, 0) _ r1 Try.underlying23 rfl (Try.size23 _) ?_)
    | (refine wpList_load_row rfl 23 _ rfl _ rfl 23 _ (0, 0) _ r2 Try.underlying23 rfl (Try.size23 _) ?_))
  go_ret
  exact ⟨rfl, by rw [hB0]; exact l9⟩

set_option maxRecDepth 10000 in
set_option maxHeartbeats 2000000 in
theorem splits_gt (g : Nat → Int) (lo hi : Int) (hl0 : 0 ≤ lo) (hl1 : lo < 256) (hh0 : 0 ≤ hi) (hh1 : hi < 256) (hgt : hi < lo) (w : World) :
    Calls Try.prog 6 #[.agg (ucells g), .int .u8 lo, .int .u8 hi] w fun e w' => e = .returned (.bool true) ∧ Below w.heap.size w w' := by
  have hnle : ¬ lo ≤ hi := by omega
  go_enter Try.func6, Try.ntmps6
  go_wp2_with fail
  refine (zzAddRange_call _ (fun _ => 0) 23 lo hi _ hl0 hl1 hh0 hh1 (heap_alloc2_new w (.cells (ucells g) 23) (.cells (ucells fun _ => 0) 23))).mono ?_
  rintro e w1 ⟨rfl, e1, o1, z1, b1⟩
  have s1 : w1.heap[w.heap.size]? = some (.cells (ucells g) 23 (0, 0)) := (o1 _ (by omega)).trans (heap_alloc2_old w _ _)
  have l1 : Below w.heap.size w w1 := (((Below.refl _ _).alloc (Nat.le_refl _) _).alloc (by simp) _).trans (b1.mono (by omega))
  have y1 : w.heap.size + 1 < w1.heap.size := by rw [z1]; simp
  clear o1 z1 b1
  generalize hB0 : w.heap.size = B0 at *
  go_wp2_with fail
  refine (zzCount_any _ _ 23 _ (addN_bound _ lo zero_bound _) e1).mono ?_
  rintro e w2 ⟨rfl, rfl⟩
  rw [cnt_addN lo hl0 _ (by unfold width; omega)]
  rw [show ((width lo hi : Nat) : Int) = 0 by unfold width; omega]
  go_wp2_with fail
  refine (zzHas_any _ _ 23 lo _ hl0 hl1 (addN_bound _ lo zero_bound _) e1).mono ?_
  rintro e w3 ⟨rfl, rfl⟩
  rw [bit_empty lo hi lo hl0 hl0 (Or.inl rfl) hh0, decide_eq_false (show ¬ lo ≤ hi by omega)]
  go_wp2_with fail
  refine (zzHas_any _ _ 23 hi _ hh0 hh1 (addN_bound _ lo zero_bound _) e1).mono ?_
  rintro e w4 ⟨rfl, rfl⟩
  rw [bit_empty lo hi hi hl0 hh0 (Or.inr rfl) hh0, decide_eq_false (show ¬ lo ≤ hi by omega)]
  clear e1
  go_wp2_with (first
    | (refine wpList_load_row rfl 23 _ rfl _ rfl 23 _ (0, 0) _ s1 Try.underlying23 rfl (Try.size23 _) ?_)
    | (refine wpList_store_row rfl 23 _ _ rfl _ (ucells g) rfl rfl 23 _ (heap_alloc_new w4 _) (Try.size23 _) rfl (ucells_one _) ?_; rw [World.setRow_alloc_new]))
  refine (zzAddRange_call _ g 23 lo hi _ hl0 hl1 hh0 hh1 (heap_alloc_new w4 _)).mono ?_
  rintro e w5 ⟨rfl, e5, o5, z5, b5⟩
  have s5 : w5.heap[B0]? = some (.cells (ucells g) 23 (0, 0)) := (o5 _ (by omega)).trans ((heap_alloc_old w4 _ (by omega)).trans s1)
  have l5 : Below B0 w w5 := (l1.alloc (by omega) _).trans (b5.mono (by omega))
  have y5 : w4.heap.size < w5.heap.size := by rw [z5]; simp
  clear o5 z5 b5 s1 l1
  generalize hB2 : w4.heap.size = B2 at *
  rw [show width lo hi = 0 by unfold width; omega] at e5
  have f7 : w5.heap[B2]? = some (.cells (ucells g) 23 (0, 0)) := e5
  have s7 := s5
  have l7 := l5
  have y7 : B0 + 1 < w5.heap.size := by omega
  have q7 : ∀ w, (Op.equalIn 10000 23 (.agg #[.int .u64 (g 0), .int .u64 (g 1), .int .u64 (g 2), .int .u64 (g 3)]) (.agg #[.int .u64 (g 0), .int .u64 (g 1), .int .u64 (g 2), .int .u64 (g 3)])).run Try.prog w = .ok true w := fun w => by
    have := run_eq23 g g w
    rwa [eqU_same] at this
  have c0 : w5.cell? ⟨B2, 0, none⟩ = some (.int .u64 (g 0)) := cell_of_row w5 B2 0 _ _ _ f7
  have c1 : w5.cell? ⟨B2, 1, none⟩ = some (.int .u64 (g 1)) := cell_of_row w5 B2 1 _ _ _ f7
  have c2 : w5.cell? ⟨B2, 2, none⟩ = some (.int .u64 (g 2)) := cell_of_row w5 B2 2 _ _ _ f7
  have c3 : w5.cell? ⟨B2, 3, none⟩ = some (.int .u64 (g 3)) := cell_of_row w5 B2 3 _ _ _ f7
  have d0 : w5.cell? ⟨B0, 0, none⟩ = some (.int .u64 (g 0)) := cell_of_row w5 B0 0 _ _ _ s7
  have d1 : w5.cell? ⟨B0, 1, none⟩ = some (.int .u64 (g 1)) := cell_of_row w5 B0 1 _ _ _ s7
  have d2 : w5.cell? ⟨B0, 2, none⟩ = some (.int .u64 (g 2)) := cell_of_row w5 B0 2 _ _ _ s7
  have d3 : w5.cell? ⟨B0, 3, none⟩ = some (.int .u64 (g 3)) := cell_of_row w5 B0 3 _ _ _ s7
  clear s5 l5 e5
  go_wp2_with (first
    | (refine wpList_load_row rfl 23 _ rfl _ rfl 23 _ (0, 0) _ s7 Try.underlying23 rfl (Try.size23 _) ?_)
    | (refine wpList_store_row rfl 23 _ _ rfl _ (ucells g) rfl rfl 23 _ (heap_alloc_new w5 _) (Try.size23 _) rfl (ucells_one _) ?_; rw [World.setRow_alloc_new]))
  clear c0 c1 c2 c3 d0 d1 d2 d3
  clear q7 f7
  refine (zzAddRange_call _ g 23 lo lo _ hl0 hl1 hl0 hl1 (heap_alloc_new w5 _)).mono ?_
  rintro e w8 ⟨rfl, e8, o8, z8, b8⟩
  rw [one_range g lo] at e8
  have s8 : w8.heap[B0]? = some (.cells (ucells g) 23 (0, 0)) := (o8 _ (by omega)).trans ((heap_alloc_old w5 _ (by omega)).trans s7)
  have l8 : Below B0 w w8 := (l7.alloc (by omega) _).trans (b8.mono (by omega))
  have y8 : w5.heap.size < w8.heap.size := by rw [z8]; simp
  clear o8 z8 b8 s7 l7
  generalize hB8 : w5.heap.size = B8 at *
  go_wp2_with (first
    | (refine wpList_load_row rfl 23 _ rfl _ rfl 23 _ (0, 0) _ s8 Try.underlying23 rfl (Try.size23 _) ?_)
    | (refine wpList_store_row rfl 23 _ _ rfl _ (ucells g) rfl rfl 23 _ (heap_alloc_new w8 _) (Try.size23 _) rfl (ucells_one _) ?_; rw [World.setRow_alloc_new]))
  refine (zzAdd_any _ g 23 lo _ hl0 hl1 (heap_alloc_new w8 _)).mono ?_
  rintro e w9 ⟨rfl, rfl⟩
  rw [World.setRow_alloc_new]
  have r1 : (w8.alloc (.cells (ucells (insG g lo)) 23)).drew.heap[w8.heap.size]? = some (.cells (ucells (insG g lo)) 23 (0, 0)) := heap_alloc_new w8 _
  have r2 : (w8.alloc (.cells (ucells (insG g lo)) 23)).drew.heap[B8]? = some (.cells (ucells (insG g lo)) 23 (0, 0)) := (heap_alloc_old w8 _ (by omega)).trans e8
  have l9 : Below B0 w (w8.alloc (.cells (ucells (insG g lo)) 23)).drew := (l8.alloc (by omega) _).drew
  generalize (w8.alloc (.cells (ucells (insG g lo)) 23)).drew = w9 at *
  have q9 : ∀ w, (Op.equalIn 10000 23 (.agg (ucells (insG g lo))) (.agg (ucells (insG g lo)))).run Try.prog w = .ok true w := fun w => by rw [run_eq23, eqU_same]
  go_wp2_with (first
    | (refine wpList_load_row rfl 23 _ rfl _ rfl 23 _ (0, 0) _ r1 Try.underlying23 rfl (Try.size23 _) ?_)
    | (refine wpList_load_row rfl 23 _ rfl _ rfl 23 _ (0, 0) _ r2 Try.underlying23 rfl (Try.size23 _) ?_))
  go_ret
  exact ⟨rfl, by rw [hB0]; exact l9⟩

theorem splits_walk (g : Nat → Int) (lo hi : Int) (_hg : ∀ i, 0 ≤ g i ∧ g i < 18446744073709551616) (hl0 : 0 ≤ lo) (hl1 : lo < 256) (hh0 : 0 ≤ hi) (hh1 : hi < 256) (w : World) :
    Calls Try.prog 6 #[.agg (ucells g), .int .u8 lo, .int .u8 hi] w fun e w' => e = .returned (.bool true) ∧ Below w.heap.size w w' := by
  rcases Int.lt_trichotomy lo hi with hlt | heq | hgt
  · exact splits_lt g lo hi hl0 hl1 hh0 hh1 hlt w
  · exact splits_eq g lo hi hl0 hl1 hh0 hh1 heq w
  · exact splits_gt g lo hi hl0 hl1 hh0 hh1 hgt w
end Go.Proofs.Qxb6604363a
