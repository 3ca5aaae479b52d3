/-
  The list's readers: ZZListLens, ZZListID, ZZListParent, ZZListSpan, ZZListCommit, walked.
-/
import Derived.Test.Qxb6604526aListAdd
import Derived.BigQuiet
namespace Go.Proofs.Qxb6604526a
open Go.RowKit

/-- What lies k rows in. -/
theorem flat_get (F f : Nat → List Value) (s : Nat) (h0 : F 0 = []) (hS : ∀ k, F (k + 1) = F k ++ f k) (hl : ∀ k, (f k).length = s) : ∀ n, (F n).length = n * s ∧ ∀ k, k < n → ∀ j v, (f k)[j]? = some v → (F n)[k * s + j]? = some v
  | 0 => ⟨by simp [h0], fun k hk => absurd hk (by omega)⟩
  | n + 1 => by
    obtain ⟨l, g⟩ := flat_get F f s h0 hS hl n
    refine ⟨by rw [hS, List.length_append, l, hl, Nat.succ_mul], fun k hk j v hv => ?_⟩
    rw [hS]
    by_cases e : k = n
    · subst e
      rw [List.getElem?_append_right (by rw [l]; omega), l, show k * s + j - k * s = j by omega]
      exact hv
    · have h1 := g k (by omega) j v hv
      rw [List.getElem?_append_left (List.getElem?_eq_some_iff.1 h1).1]
      exact h1
theorem flatIds_get (c : Nat → Com) (n k : Nat) (hk : k < n) (j : Nat) (v : Value) (hv : (rowL 33 (c k).id)[j]? = some v) : (flatIds c n)[k * 33 + j]? = some v :=
  (flat_get (flatIds c) (fun k => rowL 33 (c k).id) 33 rfl (fun _ => rfl) (fun _ => rowL_length _ _) n).2 k hk j v hv
theorem flatComs_get (c : Nat → Com) (n k : Nat) (hk : k < n) (j : Nat) (v : Value) (hv : (gcL (c k))[j]? = some v) : (flatComs c n)[k * 37 + j]? = some v :=
  (flat_get (flatComs c) (fun k => gcL (c k)) 37 rfl (fun _ => rfl) (fun _ => gcL_length _) n).2 k hk j v hv
theorem flatSpans_get (c : Nat → Com) (n k : Nat) (hk : k < n) (j : Nat) (v : Value) (hv : [Value.int .i64 (sumNp c k), .int .i64 (sumNp c (k + 1))][j]? = some v) : (flatSpans c n)[k * 2 + j]? = some v :=
  (flat_get (flatSpans c) (fun k => [.int .i64 (sumNp c k), .int .i64 (sumNp c (k + 1))]) 2 rfl (fun _ => rfl) (fun _ => rfl) n).2 k hk j v hv
theorem psL_get (p : Nat → Nat → Int) (n k : Nat) (hk : k < n) (j : Nat) (v : Value) (hv : (rowL 33 (p k))[j]? = some v) : (psL p n)[k * 33 + j]? = some v :=
  (flat_get (psL p) (fun k => rowL 33 (p k)) 33 rfl (fun _ => rfl) (fun _ => rowL_length _ _) n).2 k hk j v hv
theorem flatPs_get (c : Nat → Com) : ∀ n, (flatPs c n).length = sumNp c n * 33 ∧ ∀ i, i < n → ∀ k, k < (c i).np → ∀ j v, (rowL 33 ((c i).p k))[j]? = some v → (flatPs c n)[(sumNp c i + k) * 33 + j]? = some v
  | 0 => ⟨rfl, fun i hi => absurd hi (by omega)⟩
  | n + 1 => by
    obtain ⟨l, g⟩ := flatPs_get c n
    refine ⟨by rw [flatPs, List.length_append, l, psL_length, sumNp, Nat.add_mul], fun i hi k hk j v hv => ?_⟩
    rw [flatPs]
    by_cases e : i = n
    · subst e
      rw [List.getElem?_append_right (by rw [l]; omega), l, show (sumNp c i + k) * 33 + j - sumNp c i * 33 = k * 33 + j by omega]
      exact psL_get _ _ k hk j v hv
    · have h1 := g i (by omega) k hk j v hv
      rw [List.getElem?_append_left (List.getElem?_eq_some_iff.1 h1).1]
      exact h1
/-- An owned row that is not empty: where it lies. -/
theorem owns_range {w : World} {base e size n : Nat} {v : Value} {xs : List Value} (h : w.ownsRow base e size v n xs) (hn : 0 < n) : ∃ g cap, v = .slice (some ⟨g, 0, none⟩) n cap ∧ g < w.heap.size ∧ ∀ o (l : List Value), (∀ j u, l[j]? = some u → xs[o + j]? = some u) → w.rangeAt g o l := by
  rcases h.2 with ⟨rfl, h0⟩ | ⟨g, cap, cur, rfl, _⟩
  · omega
  · refine ⟨g, cap, rfl, (h.lt g rfl).2, fun o l hl j u hj => ?_⟩
    have h1 := hl j u hj
    have h2 := (List.getElem?_eq_some_iff.1 h1).1
    rw [h.1] at h2
    exact (h.cellAt (o + j) h2).trans h1

theorem below_drewN (w : World) (n : Nat) : Below w.heap.size w (w.drewN n) := ⟨rfl, rfl, rfl, Nat.le_refl _, fun _ _ => rfl⟩
set_option maxRecDepth 10000 in
set_option maxHeartbeats 2000000 in
/-- ZZListLens. -/
theorem lens_any (bl base : Nat) (w : World) (v0 v1 v2 v3 : Value) (n0 n1 n2 n3 : Nat) (x0 x1 x2 x3 : List Value) (h : LIs bl base w v0 v1 v2 v3 n0 n1 n2 n3 x0 x1 x2 x3) : Calls Try.prog 38 #[.pointer (some ⟨bl, 0, none⟩)] w fun e w' => e = .returned (.tuple #[.int .i64 n0, .int .i64 n1, .int .i64 n2, .int .i64 n3]) ∧ Below w.heap.size w w' := by
  obtain ⟨ao0, cap0, rfl⟩ := owns_slice h.o0
  obtain ⟨ao1, cap1, rfl⟩ := owns_slice h.o1
  obtain ⟨ao2, cap2, rfl⟩ := owns_slice h.o2
  obtain ⟨ao3, cap3, rfl⟩ := owns_slice h.o3
  obtain ⟨c0, c1, c2, c3⟩ := h.cellAt
  clear h
  go_enter Try.func38, Try.ntmps38
  go_wp2
  go_quiet (fail)
  go_wp2
  exact bodyPost_ret (v := .tuple #[.int .i64 n0, .int .i64 n1, .int .i64 n2, .int .i64 n3]) (by simp [results, Try.results38]) rfl ⟨rfl, below_drewN _ _⟩
set_option maxRecDepth 10000 in
set_option maxHeartbeats 2000000 in
/-- ZZListID. -/
theorem listID_any (bl base : Nat) (w : World) (v0 v1 v2 v3 : Value) (n0 n1 n2 n3 : Nat) (x0 x1 x2 x3 : List Value) (h : LIs bl base w v0 v1 v2 v3 n0 n1 n2 n3 x0 x1 x2 x3) (k : Nat) (hk : k < n0) (x : Nat → Int) (hx : ∀ j u, (rowL 33 x)[j]? = some u → x0[k * 33 + j]? = some u) : Calls Try.prog 39 #[.pointer (some ⟨bl, 0, none⟩), .int .i64 k] w fun e w' => e = .returned (.agg (row 33 x)) ∧ Below w.heap.size w w' := by
  obtain ⟨g, cap0, rfl, hg, hrr⟩ := owns_range h.o0 (by omega)
  have hr : ∀ o, (w.alloc o).rangeAt g (k * 33) (rowL 33 x) := fun o => rangeAt_below (hrr (k * 33) _ hx) ((Below.refl _ _).alloc (Nat.le_refl _) _) hg
  have hc : ∀ o, (w.alloc o).cell? _ = some _ := fun o => (h.grown ((Below.refl _ _).alloc (Nat.le_refl _) o)).cellAt.1
  clear h hrr hx
  go_enter Try.func39, Try.ntmps39
  go_wp2_with (first
    | (refine wpList_load_midG (by rfl) 25 _ rfl _ _ rfl _ _ (hr _) Try.underlying25 rfl (Try.sizeL25 _) ?_)
    | (refine wpList_store_row rfl 25 _ _ rfl _ (row 33 x) rfl rfl 25 _ (heap_alloc_new w _) (Try.size25 _) (by rw [row_size]; rfl) (row_one _ _) ?_; rw [World.setRow_alloc_new])
    | fail)
  exact bodyPost_ret (v := .agg (row 33 x)) (results_cell_row Try.results39 _ _ w.heap.size 25 _ (0, 0) _ rfl (heap_alloc_new w _) Try.underlying25 rfl (Try.size25 _)) rfl ⟨rfl, (Below.refl _ _).alloc (Nat.le_refl _) _⟩
set_option maxRecDepth 10000 in
set_option maxHeartbeats 2000000 in
/-- ZZListParent. -/
theorem listParent_any (bl base : Nat) (w : World) (v0 v1 v2 v3 : Value) (n0 n1 n2 n3 : Nat) (x0 x1 x2 x3 : List Value) (h : LIs bl base w v0 v1 v2 v3 n0 n1 n2 n3 x0 x1 x2 x3) (k : Nat) (hk : k < n2) (x : Nat → Int) (hx : ∀ j u, (rowL 33 x)[j]? = some u → x2[k * 33 + j]? = some u) : Calls Try.prog 42 #[.pointer (some ⟨bl, 0, none⟩), .int .i64 k] w fun e w' => e = .returned (.agg (row 33 x)) ∧ Below w.heap.size w w' := by
  obtain ⟨g, cap0, rfl, hg, hrr⟩ := owns_range h.o2 (by omega)
  have hr : ∀ o, (w.alloc o).rangeAt g (k * 33) (rowL 33 x) := fun o => rangeAt_below (hrr (k * 33) _ hx) ((Below.refl _ _).alloc (Nat.le_refl _) _) hg
  have hc : ∀ o, (w.alloc o).cell? _ = some _ := fun o => (h.grown ((Below.refl _ _).alloc (Nat.le_refl _) o)).cellAt.2.2.1
  clear h hrr hx
  go_enter Try.func42, Try.ntmps42
  go_wp2_with (first
    | (refine wpList_load_midG (by rfl) 25 _ rfl _ _ rfl _ _ (hr _) Try.underlying25 rfl (Try.sizeL25 _) ?_)
    | (refine wpList_store_row rfl 25 _ _ rfl _ (row 33 x) rfl rfl 25 _ (heap_alloc_new w _) (Try.size25 _) (by rw [row_size]; rfl) (row_one _ _) ?_; rw [World.setRow_alloc_new])
    | fail)
  exact bodyPost_ret (v := .agg (row 33 x)) (results_cell_row Try.results42 _ _ w.heap.size 25 _ (0, 0) _ rfl (heap_alloc_new w _) Try.underlying25 rfl (Try.size25 _)) rfl ⟨rfl, (Below.refl _ _).alloc (Nat.le_refl _) _⟩
set_option maxRecDepth 10000 in
set_option maxHeartbeats 2000000 in
/-- ZZListSpan. -/
theorem listSpan_any (bl base : Nat) (w : World) (v0 v1 v2 v3 : Value) (n0 n1 n2 n3 : Nat) (x0 x1 x2 x3 : List Value) (h : LIs bl base w v0 v1 v2 v3 n0 n1 n2 n3 x0 x1 x2 x3) (k : Nat) (hk : k < n3) (s t : Int) (hx : ∀ j u, [Value.int .i64 s, .int .i64 t][j]? = some u → x3[k * 2 + j]? = some u) : Calls Try.prog 41 #[.pointer (some ⟨bl, 0, none⟩), .int .i64 k] w fun e w' => e = .returned (.tuple #[.int .i64 s, .int .i64 t]) ∧ Below w.heap.size w w' := by
  obtain ⟨g, cap0, rfl, hg, hrr⟩ := owns_range h.o3 (by omega)
  have hr0 : w.cell? ⟨g, k * 2, none⟩ = some (.int .i64 s) := hrr (k * 2) [.int .i64 s, .int .i64 t] hx 0 _ rfl
  have hr1 : w.cell? ⟨g, k * 2 + 1, none⟩ = some (.int .i64 t) := hrr (k * 2) [.int .i64 s, .int .i64 t] hx 1 _ rfl
  have hc := h.cellAt.2.2.2
  clear h hrr hx
  go_enter Try.func41, Try.ntmps41
  go_wp2
  go_quiet (fail)
  go_wp2
  exact bodyPost_ret (v := .tuple #[.int .i64 s, .int .i64 t]) (by simp [results, Try.results41]) rfl ⟨rfl, below_drewN _ _⟩
end Go.Proofs.Qxb6604526a
