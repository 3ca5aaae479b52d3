/-
  FnCompareIDsAgreesWithEquality, walked.
-/
import Derived.Test.Qxb6604526aOrder
namespace Go.Proofs.Qxb6604526a
open Go.RowKit

theorem three_new (w : World) (A B C : Obj) : (((w.alloc A).alloc B).alloc C).heap[w.heap.size + 1 + 1]? = some C := by
  have h := heap_alloc_new ((w.alloc A).alloc B) C
  rwa [show ((w.alloc A).alloc B).heap.size = w.heap.size + 1 + 1 by simp] at h
theorem three_mid (w : World) (A B C : Obj) : (((w.alloc A).alloc B).alloc C).heap[w.heap.size + 1]? = some B := by
  rw [heap_alloc_old _ _ (by simp)]
  exact heap_alloc2_new w A B
theorem three_old (w : World) (A B C : Obj) : (((w.alloc A).alloc B).alloc C).heap[w.heap.size]? = some A := by
  rw [heap_alloc_old _ _ (by simp; omega)]
  exact heap_alloc2_old w A B
theorem three_below (w : World) (A B C : Obj) : Below w.heap.size w (((w.alloc A).alloc B).alloc C) := (((Below.refl _ _).alloc (Nat.le_refl _) _).alloc (by simp) _).alloc (by simp; omega) _

/-- The lengths do not agree: the law says true at once. -/
theorem cmpLaw_early (a b c : Nat → Int) (an bn cn : Int) (w : World) (h : 32 < an ∨ bn ≠ an ∨ cn ≠ an) :
    Calls Try.prog 3 #[.agg (row 32 a), .int .u8 an, .agg (row 32 b), .int .u8 bn, .agg (row 32 c), .int .u8 cn] w fun e w' => e = .returned (.bool true) ∧ Below w.heap.size w w' := by
  by_cases h1 : 32 < an
  · go_enter Try.func3, Try.ntmps3
    go_wp2
    go_ret
    exact ⟨rfl, three_below _ _ _ _⟩
  · by_cases h2 : bn = an
    · have h3 : (cn != an) = true := by
        rcases h with h | h | h
        · omega
        · exact absurd h2 h
        · simpa using h
      have h2' : (bn != an) = false := by simp [h2]
      clear h2 h
      go_enter Try.func3, Try.ntmps3
      go_wp2
      go_ret
      exact ⟨rfl, three_below _ _ _ _⟩
    · have h2' : (bn != an) = true := by simpa using h2
      clear h2 h
      go_enter Try.func3, Try.ntmps3
      go_wp2
      go_ret
      exact ⟨rfl, three_below _ _ _ _⟩

set_option maxRecDepth 10000 in
set_option maxHeartbeats 4000000 in
theorem cmpLaw_a (a b c : Nat → Int) (n : Nat) (w : World) (hn : n ≤ 32) (ht0 : tailZ a n = false) :
    Calls Try.prog 3 #[.agg (row 32 a), .int .u8 n, .agg (row 32 b), .int .u8 n, .agg (row 32 c), .int .u8 n] w fun e w' => e = .returned (.bool true) ∧ Below w.heap.size w w' := by
  have i0 := three_old w (.cells (row 32 a) 22) (.cells (row 32 b) 22) (.cells (row 32 c) 22)
  have i1 := three_mid w (.cells (row 32 a) 22) (.cells (row 32 b) 22) (.cells (row 32 c) 22)
  have i2 := three_new w (.cells (row 32 a) 22) (.cells (row 32 b) 22) (.cells (row 32 c) 22)
  have l0 := three_below w (.cells (row 32 a) 22) (.cells (row 32 b) 22) (.cells (row 32 c) 22)
  have y0 : w.heap.size + 1 + 1 < (((w.alloc (.cells (row 32 a) 22)).alloc (.cells (row 32 b) 22)).alloc (.cells (row 32 c) 22)).heap.size := by simp
  go_enter Try.func3, Try.ntmps3
  go_wp2_with (refine wpList_load_rowG (by rfl) 22 _ rfl _ rfl 22 _ (0, 0) _ i0 Try.underlying22 rfl (Try.size22 _) ?_)
  generalize ((w.alloc (.cells (row 32 a) 22)).alloc (.cells (row 32 b) 22)).alloc (.cells (row 32 c) 22) = w0 at *
  refine (tail_any a n _ (by omega)).mono ?_
  rintro e w1 ⟨rfl, hb⟩
  rw [ht0]
  replace i0 := (hb.block _ (by omega)).trans i0
  replace i1 := (hb.block _ (by omega)).trans i1
  replace i2 := (hb.block _ (by omega)).trans i2
  replace l0 := l0.trans (hb.mono (by omega))
  replace y0 := Nat.lt_of_lt_of_le y0 hb.size
  clear hb
  go_wp2
  go_ret
  exact ⟨rfl, l0⟩

set_option maxRecDepth 10000 in
set_option maxHeartbeats 4000000 in
theorem cmpLaw_b (a b c : Nat → Int) (n : Nat) (w : World) (hn : n ≤ 32) (ht0 : tailZ a n = true) (ht1 : tailZ b n = false) :
    Calls Try.prog 3 #[.agg (row 32 a), .int .u8 n, .agg (row 32 b), .int .u8 n, .agg (row 32 c), .int .u8 n] w fun e w' => e = .returned (.bool true) ∧ Below w.heap.size w w' := by
  have i0 := three_old w (.cells (row 32 a) 22) (.cells (row 32 b) 22) (.cells (row 32 c) 22)
  have i1 := three_mid w (.cells (row 32 a) 22) (.cells (row 32 b) 22) (.cells (row 32 c) 22)
  have i2 := three_new w (.cells (row 32 a) 22) (.cells (row 32 b) 22) (.cells (row 32 c) 22)
  have l0 := three_below w (.cells (row 32 a) 22) (.cells (row 32 b) 22) (.cells (row 32 c) 22)
  have y0 : w.heap.size + 1 + 1 < (((w.alloc (.cells (row 32 a) 22)).alloc (.cells (row 32 b) 22)).alloc (.cells (row 32 c) 22)).heap.size := by simp
  go_enter Try.func3, Try.ntmps3
  go_wp2_with (refine wpList_load_rowG (by rfl) 22 _ rfl _ rfl 22 _ (0, 0) _ i0 Try.underlying22 rfl (Try.size22 _) ?_)
  generalize ((w.alloc (.cells (row 32 a) 22)).alloc (.cells (row 32 b) 22)).alloc (.cells (row 32 c) 22) = w0 at *
  refine (tail_any a n _ (by omega)).mono ?_
  rintro e w1 ⟨rfl, hb⟩
  rw [ht0]
  replace i0 := (hb.block _ (by omega)).trans i0
  replace i1 := (hb.block _ (by omega)).trans i1
  replace i2 := (hb.block _ (by omega)).trans i2
  replace l0 := l0.trans (hb.mono (by omega))
  replace y0 := Nat.lt_of_lt_of_le y0 hb.size
  clear hb
  go_wp2_with (first | (refine wpList_load_rowG (by rfl) 22 _ rfl _ rfl 22 _ (0, 0) _ i0 Try.underlying22 rfl (Try.size22 _) ?_) | (refine wpList_load_rowG (by rfl) 22 _ rfl _ rfl 22 _ (0, 0) _ i1 Try.underlying22 rfl (Try.size22 _) ?_) | (refine wpList_load_rowG (by rfl) 22 _ rfl _ rfl 22 _ (0, 0) _ i2 Try.underlying22 rfl (Try.size22 _) ?_))
  refine (tail_any b n _ (by omega)).mono ?_
  rintro e w2 ⟨rfl, hb⟩
  rw [ht1]
  replace i0 := (hb.block _ (by omega)).trans i0
  replace i1 := (hb.block _ (by omega)).trans i1
  replace i2 := (hb.block _ (by omega)).trans i2
  replace l0 := l0.trans (hb.mono (by omega))
  replace y0 := Nat.lt_of_lt_of_le y0 hb.size
  clear hb
  go_wp2
  go_ret
  exact ⟨rfl, l0⟩

set_option maxRecDepth 10000 in
set_option maxHeartbeats 4000000 in
theorem cmpLaw_c (a b c : Nat → Int) (n : Nat) (w : World) (hn : n ≤ 32) (ht0 : tailZ a n = true) (ht1 : tailZ b n = true) (ht2 : tailZ c n = false) :
    Calls Try.prog 3 #[.agg (row 32 a), .int .u8 n, .agg (row 32 b), .int .u8 n, .agg (row 32 c), .int .u8 n] w fun e w' => e = .returned (.bool true) ∧ Below w.heap.size w w' := by
  have i0 := three_old w (.cells (row 32 a) 22) (.cells (row 32 b) 22) (.cells (row 32 c) 22)
  have i1 := three_mid w (.cells (row 32 a) 22) (.cells (row 32 b) 22) (.cells (row 32 c) 22)
  have i2 := three_new w (.cells (row 32 a) 22) (.cells (row 32 b) 22) (.cells (row 32 c) 22)
  have l0 := three_below w (.cells (row 32 a) 22) (.cells (row 32 b) 22) (.cells (row 32 c) 22)
  have y0 : w.heap.size + 1 + 1 < (((w.alloc (.cells (row 32 a) 22)).alloc (.cells (row 32 b) 22)).alloc (.cells (row 32 c) 22)).heap.size := by simp
  go_enter Try.func3, Try.ntmps3
  go_wp2_with (refine wpList_load_rowG (by rfl) 22 _ rfl _ rfl 22 _ (0, 0) _ i0 Try.underlying22 rfl (Try.size22 _) ?_)
  generalize ((w.alloc (.cells (row 32 a) 22)).alloc (.cells (row 32 b) 22)).alloc (.cells (row 32 c) 22) = w0 at *
  refine (tail_any a n _ (by omega)).mono ?_
  rintro e w1 ⟨rfl, hb⟩
  rw [ht0]
  replace i0 := (hb.block _ (by omega)).trans i0
  replace i1 := (hb.block _ (by omega)).trans i1
  replace i2 := (hb.block _ (by omega)).trans i2
  replace l0 := l0.trans (hb.mono (by omega))
  replace y0 := Nat.lt_of_lt_of_le y0 hb.size
  clear hb
  go_wp2_with (first | (refine wpList_load_rowG (by rfl) 22 _ rfl _ rfl 22 _ (0, 0) _ i0 Try.underlying22 rfl (Try.size22 _) ?_) | (refine wpList_load_rowG (by rfl) 22 _ rfl _ rfl 22 _ (0, 0) _ i1 Try.underlying22 rfl (Try.size22 _) ?_) | (refine wpList_load_rowG (by rfl) 22 _ rfl _ rfl 22 _ (0, 0) _ i2 Try.underlying22 rfl (Try.size22 _) ?_))
  refine (tail_any b n _ (by omega)).mono ?_
  rintro e w2 ⟨rfl, hb⟩
  rw [ht1]
  replace i0 := (hb.block _ (by omega)).trans i0
  replace i1 := (hb.block _ (by omega)).trans i1
  replace i2 := (hb.block _ (by omega)).trans i2
  replace l0 := l0.trans (hb.mono (by omega))
  replace y0 := Nat.lt_of_lt_of_le y0 hb.size
  clear hb
  go_wp2_with (first | (refine wpList_load_rowG (by rfl) 22 _ rfl _ rfl 22 _ (0, 0) _ i0 Try.underlying22 rfl (Try.size22 _) ?_) | (refine wpList_load_rowG (by rfl) 22 _ rfl _ rfl 22 _ (0, 0) _ i1 Try.underlying22 rfl (Try.size22 _) ?_) | (refine wpList_load_rowG (by rfl) 22 _ rfl _ rfl 22 _ (0, 0) _ i2 Try.underlying22 rfl (Try.size22 _) ?_))
  refine (tail_any c n _ (by omega)).mono ?_
  rintro e w3 ⟨rfl, hb⟩
  rw [ht2]
  replace i0 := (hb.block _ (by omega)).trans i0
  replace i1 := (hb.block _ (by omega)).trans i1
  replace i2 := (hb.block _ (by omega)).trans i2
  replace l0 := l0.trans (hb.mono (by omega))
  replace y0 := Nat.lt_of_lt_of_le y0 hb.size
  clear hb
  go_wp2
  go_ret
  exact ⟨rfl, l0⟩
end Go.Proofs.Qxb6604526a
