/-
  FnCompareIDsAgreesWithEquality, walked: the way to its end.
-/
import Derived.Test.Qxb6604526aCmpEarly
namespace Go.Proofs.Qxb6604526a
open Go.RowKit

theorem idOf_bytes {z : Nat → Int} {n : Int} (h : ∀ i, i < 32 → 0 ≤ z i ∧ z i < 256) : ∀ i, i < 32 → 0 ≤ idOf z n i ∧ idOf z n i < 256 := fun i hi => by
  unfold idOf; rw [if_pos hi]; exact h i hi

set_option maxRecDepth 10000 in
set_option maxHeartbeats 4000000 in
theorem cmpLaw_main (a b c : Nat → Int) (n : Nat) (w : World) (hn : n ≤ 32) (ha : ∀ i, i < 32 → 0 ≤ a i ∧ a i < 256) (hb0 : ∀ i, i < 32 → 0 ≤ b i ∧ b i < 256) (hc : ∀ i, i < 32 → 0 ≤ c i ∧ c i < 256) (ht0 : tailZ a n = true) (ht1 : tailZ b n = true) (ht2 : tailZ c n = true) :
    Calls Try.prog 3 #[.agg (row 32 a), .int .u8 n, .agg (row 32 b), .int .u8 n, .agg (row 32 c), .int .u8 n] w fun e w' => e = .returned (.bool true) ∧ Below w.heap.size w w' := by
  have i0 := three_old w (.cells (row 32 a) 22) (.cells (row 32 b) 22) (.cells (row 32 c) 22)
  have i1 := three_mid w (.cells (row 32 a) 22) (.cells (row 32 b) 22) (.cells (row 32 c) 22)
  have i2 := three_new w (.cells (row 32 a) 22) (.cells (row 32 b) 22) (.cells (row 32 c) 22)
  have l0 := three_below w (.cells (row 32 a) 22) (.cells (row 32 b) 22) (.cells (row 32 c) 22)
  have y0 : w.heap.size + 1 + 1 < (((w.alloc (.cells (row 32 a) 22)).alloc (.cells (row 32 b) 22)).alloc (.cells (row 32 c) 22)).heap.size := by simp
  go_enter Try.func3, Try.ntmps3
  go_wp2_with (refine wpList_load_rowG (by rfl) 22 _ rfl _ rfl 22 _ (0, 0) _ i0 Try.underlying22 rfl (Try.size22 _) ?_)
  generalize ((w.alloc (.cells (row 32 a) 22)).alloc (.cells (row 32 b) 22)).alloc (.cells (row 32 c) 22) = w0 at *
  refine (tail_any a n _ (by omega)).mono ?_
  rintro e w1 ⟨rfl, hb⟩
  rw [ht0]
  replace i0 := (hb.block _ (by omega)).trans i0
  replace i1 := (hb.block _ (by omega)).trans i1
  replace i2 := (hb.block _ (by omega)).trans i2
  replace l0 := l0.trans (hb.mono (by omega))
  replace y0 := Nat.lt_of_lt_of_le y0 hb.size
  clear hb
  go_wp2_with (first | (refine wpList_load_rowG (by rfl) 22 _ rfl _ rfl 22 _ (0, 0) _ i0 Try.underlying22 rfl (Try.size22 _) ?_) | (refine wpList_load_rowG (by rfl) 22 _ rfl _ rfl 22 _ (0, 0) _ i1 Try.underlying22 rfl (Try.size22 _) ?_) | (refine wpList_load_rowG (by rfl) 22 _ rfl _ rfl 22 _ (0, 0) _ i2 Try.underlying22 rfl (Try.size22 _) ?_))
  refine (tail_any b n _ (by omega)).mono ?_
  rintro e w2 ⟨rfl, hb⟩
  rw [ht1]
  replace i0 := (hb.block _ (by omega)).trans i0
  replace i1 := (hb.block _ (by omega)).trans i1
  replace i2 := (hb.block _ (by omega)).trans i2
  replace l0 := l0.trans (hb.mono (by omega))
  replace y0 := Nat.lt_of_lt_of_le y0 hb.size
  clear hb
  go_wp2_with (first | (refine wpList_load_rowG (by rfl) 22 _ rfl _ rfl 22 _ (0, 0) _ i0 Try.underlying22 rfl (Try.size22 _) ?_) | (refine wpList_load_rowG (by rfl) 22 _ rfl _ rfl 22 _ (0, 0) _ i1 Try.underlying22 rfl (Try.size22 _) ?_) | (refine wpList_load_rowG (by rfl) 22 _ rfl _ rfl 22 _ (0, 0) _ i2 Try.underlying22 rfl (Try.size22 _) ?_))
  refine (tail_any c n _ (by omega)).mono ?_
  rintro e w3 ⟨rfl, hb⟩
  rw [ht2]
  replace i0 := (hb.block _ (by omega)).trans i0
  replace i1 := (hb.block _ (by omega)).trans i1
  replace i2 := (hb.block _ (by omega)).trans i2
  replace l0 := l0.trans (hb.mono (by omega))
  replace y0 := Nat.lt_of_lt_of_le y0 hb.size
  clear hb
  go_wp2_with (first | (refine wpList_load_rowG (by rfl) 22 _ rfl _ rfl 22 _ (0, 0) _ i0 Try.underlying22 rfl (Try.size22 _) ?_) | (refine wpList_load_rowG (by rfl) 22 _ rfl _ rfl 22 _ (0, 0) _ i1 Try.underlying22 rfl (Try.size22 _) ?_) | (refine wpList_load_rowG (by rfl) 22 _ rfl _ rfl 22 _ (0, 0) _ i2 Try.underlying22 rfl (Try.size22 _) ?_))
  refine (zzid_any a n _).mono ?_
  rintro e w4 ⟨rfl, hb⟩
  replace i0 := (heap_alloc_old w4 (.cells (row 33 (idOf a n)) 25) (Nat.lt_of_lt_of_le (by omega) hb.size)).trans ((hb.block _ (by omega)).trans i0)
  replace i1 := (heap_alloc_old w4 (.cells (row 33 (idOf a n)) 25) (Nat.lt_of_lt_of_le (by omega) hb.size)).trans ((hb.block _ (by omega)).trans i1)
  replace i2 := (heap_alloc_old w4 (.cells (row 33 (idOf a n)) 25) (Nat.lt_of_lt_of_le (by omega) hb.size)).trans ((hb.block _ (by omega)).trans i2)
  have gA : (w4.alloc (.cells (row 33 (idOf a n)) 25)).heap[w4.heap.size]? = some (.cells (row 33 (idOf a n)) 25 (0, 0)) := heap_alloc_new w4 _
  have l1 := (l0.trans (hb.mono (by omega))).alloc (Nat.le_trans (by omega) hb.size) (.cells (row 33 (idOf a n)) 25)
  have y1 : w4.heap.size < (w4.alloc (.cells (row 33 (idOf a n)) 25)).heap.size := by simp
  have y2 := hb.size
  go_wp2_with (first
    | (refine wpList_store_row rfl 25 _ _ rfl _ (row 33 (idOf a n)) rfl rfl 25 _ (heap_alloc_new w4 _) (Try.size25 _) (by rw [row_size]; rfl) (row_one _ _) ?_; rw [World.setRow_alloc_new])
    | (refine wpList_load_rowG (by rfl) 22 _ rfl _ rfl 22 _ (0, 0) _ i1 Try.underlying22 rfl (Try.size22 _) ?_))
  generalize w4.alloc (.cells (row 33 (idOf a n)) 25) = w5 at *
  clear l0 hb
  have l0 := l1
  clear l1
  generalize w4.heap.size = pA at *
  replace y0 : w.heap.size + 1 + 1 < pA := by omega
  have yA := y1
  clear y1 y2
  refine (zzid_any b n _).mono ?_
  rintro e w6 ⟨rfl, hb⟩
  replace i0 := (heap_alloc_old w6 (.cells (row 33 (idOf b n)) 25) (Nat.lt_of_lt_of_le (by omega) hb.size)).trans ((hb.block _ (by omega)).trans i0)
  replace i1 := (heap_alloc_old w6 (.cells (row 33 (idOf b n)) 25) (Nat.lt_of_lt_of_le (by omega) hb.size)).trans ((hb.block _ (by omega)).trans i1)
  replace i2 := (heap_alloc_old w6 (.cells (row 33 (idOf b n)) 25) (Nat.lt_of_lt_of_le (by omega) hb.size)).trans ((hb.block _ (by omega)).trans i2)
  replace gA := (heap_alloc_old w6 (.cells (row 33 (idOf b n)) 25) (Nat.lt_of_lt_of_le (by omega) hb.size)).trans ((hb.block _ (by omega)).trans gA)
  have gB : (w6.alloc (.cells (row 33 (idOf b n)) 25)).heap[w6.heap.size]? = some (.cells (row 33 (idOf b n)) 25 (0, 0)) := heap_alloc_new w6 _
  have l1 := (l0.trans (hb.mono (by omega))).alloc (Nat.le_trans (by omega) hb.size) (.cells (row 33 (idOf b n)) 25)
  have y1 : w6.heap.size < (w6.alloc (.cells (row 33 (idOf b n)) 25)).heap.size := by simp
  have y2 := hb.size
  go_wp2_with (first
    | (refine wpList_store_row rfl 25 _ _ rfl _ (row 33 (idOf b n)) rfl rfl 25 _ (heap_alloc_new w6 _) (Try.size25 _) (by rw [row_size]; rfl) (row_one _ _) ?_; rw [World.setRow_alloc_new])
    | (refine wpList_load_rowG (by rfl) 22 _ rfl _ rfl 22 _ (0, 0) _ i2 Try.underlying22 rfl (Try.size22 _) ?_))
  generalize w6.alloc (.cells (row 33 (idOf b n)) 25) = w7 at *
  clear l0 hb
  have l0 := l1
  clear l1
  generalize w6.heap.size = pB at *
  have yB := y1
  replace yA : pA < pB := by omega
  clear y1 y2
  refine (zzid_any c n _).mono ?_
  rintro e w8 ⟨rfl, hb⟩
  replace i0 := (heap_alloc_old w8 (.cells (row 33 (idOf c n)) 25) (Nat.lt_of_lt_of_le (by omega) hb.size)).trans ((hb.block _ (by omega)).trans i0)
  replace i1 := (heap_alloc_old w8 (.cells (row 33 (idOf c n)) 25) (Nat.lt_of_lt_of_le (by omega) hb.size)).trans ((hb.block _ (by omega)).trans i1)
  replace i2 := (heap_alloc_old w8 (.cells (row 33 (idOf c n)) 25) (Nat.lt_of_lt_of_le (by omega) hb.size)).trans ((hb.block _ (by omega)).trans i2)
  replace gA := (heap_alloc_old w8 (.cells (row 33 (idOf c n)) 25) (Nat.lt_of_lt_of_le (by omega) hb.size)).trans ((hb.block _ (by omega)).trans gA)
  replace gB := (heap_alloc_old w8 (.cells (row 33 (idOf c n)) 25) (Nat.lt_of_lt_of_le (by omega) hb.size)).trans ((hb.block _ (by omega)).trans gB)
  have gC : (w8.alloc (.cells (row 33 (idOf c n)) 25)).heap[w8.heap.size]? = some (.cells (row 33 (idOf c n)) 25 (0, 0)) := heap_alloc_new w8 _
  have l1 := (l0.trans (hb.mono (by omega))).alloc (Nat.le_trans (by omega) hb.size) (.cells (row 33 (idOf c n)) 25)
  have y1 : w8.heap.size < (w8.alloc (.cells (row 33 (idOf c n)) 25)).heap.size := by simp
  have y2 := hb.size
  go_wp2_with (first
    | (refine wpList_store_row rfl 25 _ _ rfl _ (row 33 (idOf c n)) rfl rfl 25 _ (heap_alloc_new w8 _) (Try.size25 _) (by rw [row_size]; rfl) (row_one _ _) ?_; rw [World.setRow_alloc_new])
    | (refine wpList_load_rowG (by rfl) 25 _ rfl _ rfl 25 _ (0, 0) _ gA Try.underlying25 rfl (Try.size25 _) ?_)
    | (refine wpList_load_rowG (by rfl) 25 _ rfl _ rfl 25 _ (0, 0) _ gB Try.underlying25 rfl (Try.size25 _) ?_)
    | (refine wpList_load_rowG (by rfl) 25 _ rfl _ rfl 25 _ (0, 0) _ gC Try.underlying25 rfl (Try.size25 _) ?_))
  generalize w8.alloc (.cells (row 33 (idOf c n)) 25) = w9 at *
  clear l0 hb
  have l0 := l1
  clear l1
  generalize w8.heap.size = pC at *
  have yC := y1
  replace yB : pB < pC := by omega
  clear y1 y2 i0 i1 i2
  have eAB : (cmpZ (idOf a n) (idOf b n) == 0) = eqId (idOf a n) (idOf b n) := cmpZ_eq _ _ (idOf_bytes ha) (idOf_bytes hb0) rfl
  have eBC : (cmpZ (idOf b n) (idOf c n) == 0) = eqId (idOf b n) (idOf c n) := cmpZ_eq _ _ (idOf_bytes hb0) (idOf_bytes hc) rfl
  have eAC : (cmpZ (idOf a n) (idOf c n) == 0) = eqId (idOf a n) (idOf c n) := cmpZ_eq _ _ (idOf_bytes ha) (idOf_bytes hc) rfl
  have rAB : ∀ w, (Op.equalIn 10000 25 (.agg (row 33 (idOf a n))) (.agg (row 33 (idOf b n)))).run Try.prog w = .ok (cmpZ (idOf a n) (idOf b n) == 0) w := fun w => by rw [eAB]; exact run_eq25 _ _ w
  have rBC : ∀ w, (Op.equalIn 10000 25 (.agg (row 33 (idOf b n))) (.agg (row 33 (idOf c n)))).run Try.prog w = .ok (cmpZ (idOf b n) (idOf c n) == 0) w := fun w => by rw [eBC]; exact run_eq25 _ _ w
  have rAC : ∀ w, (Op.equalIn 10000 25 (.agg (row 33 (idOf a n))) (.agg (row 33 (idOf c n)))).run Try.prog w = .ok (cmpZ (idOf a n) (idOf c n) == 0) w := fun w => by rw [eAC]; exact run_eq25 _ _ w
  clear eAB eBC eAC ha hb0 hc ht0 ht1 ht2
  have uAB := cmpZ_range (idOf a n) (idOf b n)
  have anti := cmpZ_anti (idOf a n) (idOf b n)
  have antiBC := cmpZ_anti (idOf b n) (idOf c n)
  have antiAC := cmpZ_anti (idOf a n) (idOf c n)
  have tr : Hid (cmpZ (idOf a n) (idOf b n) ≤ 0 → cmpZ (idOf b n) (idOf c n) ≤ 0 → cmpZ (idOf a n) (idOf c n) ≤ 0) := fun h k => cmpZ_trans _ _ _ h k
  have tr2 : Hid (0 ≤ cmpZ (idOf a n) (idOf b n) → 0 ≤ cmpZ (idOf b n) (idOf c n) → 0 ≤ cmpZ (idOf a n) (idOf c n)) := fun h k => by
    have := cmpZ_trans (idOf c n) (idOf b n) (idOf a n) (by omega) (by omega)
    omega
  clear antiBC antiAC
  refine (zzCmp_any _ _ _).mono ?_
  rintro e w10 ⟨rfl, hb⟩
  replace gA := (hb.block _ (by omega)).trans gA
  replace gB := (hb.block _ (by omega)).trans gB
  replace gC := (hb.block _ (by omega)).trans gC
  replace l0 := l0.trans (hb.mono (by omega))
  replace yC := Nat.lt_of_lt_of_le yC hb.size
  clear hb
  go_wp2_with (first
    | (refine wpList_load_rowG (by rfl) 25 _ rfl _ rfl 25 _ (0, 0) _ gA Try.underlying25 rfl (Try.size25 _) ?_)
    | (refine wpList_load_rowG (by rfl) 25 _ rfl _ rfl 25 _ (0, 0) _ gB Try.underlying25 rfl (Try.size25 _) ?_)
    | (refine wpList_load_rowG (by rfl) 25 _ rfl _ rfl 25 _ (0, 0) _ gC Try.underlying25 rfl (Try.size25 _) ?_))
  refine (zzCmp_any _ _ _).mono ?_
  rintro e w11 ⟨rfl, hb⟩
  rw [anti]
  replace gA := (hb.block _ (by omega)).trans gA
  replace gB := (hb.block _ (by omega)).trans gB
  replace gC := (hb.block _ (by omega)).trans gC
  replace l0 := l0.trans (hb.mono (by omega))
  replace yC := Nat.lt_of_lt_of_le yC hb.size
  clear hb
  clear anti
  go_wp2_with (first
    | (refine wpList_load_rowG (by rfl) 25 _ rfl _ rfl 25 _ (0, 0) _ gA Try.underlying25 rfl (Try.size25 _) ?_)
    | (refine wpList_load_rowG (by rfl) 25 _ rfl _ rfl 25 _ (0, 0) _ gB Try.underlying25 rfl (Try.size25 _) ?_)
    | (refine wpList_load_rowG (by rfl) 25 _ rfl _ rfl 25 _ (0, 0) _ gC Try.underlying25 rfl (Try.size25 _) ?_))
  refine (zzCmp_any _ _ _).mono ?_
  rintro e w12 ⟨rfl, hb⟩
  replace gA := (hb.block _ (by omega)).trans gA
  replace gB := (hb.block _ (by omega)).trans gB
  replace gC := (hb.block _ (by omega)).trans gC
  replace l0 := l0.trans (hb.mono (by omega))
  replace yC := Nat.lt_of_lt_of_le yC hb.size
  clear hb
  go_wp2_with (first
    | (refine wpList_load_rowG (by rfl) 25 _ rfl _ rfl 25 _ (0, 0) _ gA Try.underlying25 rfl (Try.size25 _) ?_)
    | (refine wpList_load_rowG (by rfl) 25 _ rfl _ rfl 25 _ (0, 0) _ gB Try.underlying25 rfl (Try.size25 _) ?_)
    | (refine wpList_load_rowG (by rfl) 25 _ rfl _ rfl 25 _ (0, 0) _ gC Try.underlying25 rfl (Try.size25 _) ?_))
  refine (zzCmp_any _ _ _).mono ?_
  rintro e w13 ⟨rfl, hb⟩
  replace gA := (hb.block _ (by omega)).trans gA
  replace gB := (hb.block _ (by omega)).trans gB
  replace gC := (hb.block _ (by omega)).trans gC
  replace l0 := l0.trans (hb.mono (by omega))
  replace yC := Nat.lt_of_lt_of_le yC hb.size
  clear hb
  generalize idOf a n = A at *
  generalize idOf b n = B at *
  generalize idOf c n = C at *
  generalize cmpZ A B = u at *
  generalize cmpZ B C = v at *
  generalize cmpZ A C = t at *
  obtain ⟨u1, u2⟩ := uAB
  go_wp2_with (first
    | (refine wpList_load_rowG (by rfl) 25 _ rfl _ rfl 25 _ (0, 0) _ gA Try.underlying25 rfl (Try.size25 _) ?_)
    | (refine wpList_load_rowG (by rfl) 25 _ rfl _ rfl 25 _ (0, 0) _ gB Try.underlying25 rfl (Try.size25 _) ?_)
    | (refine wpList_load_rowG (by rfl) 25 _ rfl _ rfl 25 _ (0, 0) _ gC Try.underlying25 rfl (Try.size25 _) ?_))
  all_goals first | (exfalso; have h := tr.out (by omega) (by omega); omega) | (exfalso; have h := tr2.out (by omega) (by omega); omega) | (go_ret; exact ⟨rfl, l0⟩)

theorem cmpLaw_walk (a b c : Nat → Int) (an bn cn : Int) (ha : ∀ i, i < 32 → 0 ≤ a i ∧ a i < 256) (hb0 : ∀ i, i < 32 → 0 ≤ b i ∧ b i < 256) (hc : ∀ i, i < 32 → 0 ≤ c i ∧ c i < 256) (h0 : 0 ≤ an) (w : World) :
    Calls Try.prog 3 #[.agg (row 32 a), .int .u8 an, .agg (row 32 b), .int .u8 bn, .agg (row 32 c), .int .u8 cn] w fun e w' => e = .returned (.bool true) ∧ Below w.heap.size w w' := by
  by_cases h : 32 < an ∨ bn ≠ an ∨ cn ≠ an
  · exact cmpLaw_early a b c an bn cn w h
  · obtain ⟨n, rfl⟩ := Int.eq_ofNat_of_zero_le h0
    obtain rfl : bn = (n : Int) := Decidable.byContradiction fun e => h (Or.inr (Or.inl e))
    obtain rfl : cn = (n : Int) := Decidable.byContradiction fun e => h (Or.inr (Or.inr e))
    have hn : n ≤ 32 := by omega
    cases ht0 : tailZ a n
    · exact cmpLaw_a a b c n w hn ht0
    · cases ht1 : tailZ b n
      · exact cmpLaw_b a b c n w hn ht0 ht1
      · cases ht2 : tailZ c n
        · exact cmpLaw_c a b c n w hn ht0 ht1 ht2
        · exact cmpLaw_main a b c n w hn ha hb0 hc ht0 ht1 ht2
end Go.Proofs.Qxb6604526a
