/-
  ZZListCommit, walked.
-/
import Derived.Test.Qxb6604526aRead
namespace Go.Proofs.Qxb6604526a
open Go.RowKit

theorem gc_tree {w : World} {b o : Nat} {c : Com} (h : w.rangeAt b o (gcL c)) : w.rangeAt b o (rowL 33 c.tree) := fun j v hv =>
  h j v (by unfold gcL; rw [List.getElem?_append_left]; · exact hv
            · exact (List.getElem?_eq_some_iff.1 hv).1)
theorem gc_33 {w : World} {b o : Nat} {c : Com} (h : w.rangeAt b o (gcL c)) : w.cell? ⟨b, o + 33, none⟩ = some (.slice none 0 0) := h 33 _ (by simp [gcL, rowL_length])
theorem gc_34 {w : World} {b o : Nat} {c : Com} (h : w.rangeAt b o (gcL c)) : w.cell? ⟨b, o + 34, none⟩ = some (.int .u64 c.time) := h 34 _ (by simp [gcL, rowL_length])
theorem gc_35 {w : World} {b o : Nat} {c : Com} (h : w.rangeAt b o (gcL c)) : w.cell? ⟨b, o + 35, none⟩ = some (.int .u32 0) := h 35 _ (by simp [gcL, rowL_length])
theorem gc_36 {w : World} {b o : Nat} {c : Com} (h : w.rangeAt b o (gcL c)) : w.cell? ⟨b, o + 36, none⟩ = some (.int .u64 0) := h 36 _ (by simp [gcL, rowL_length])
theorem Try.sizeA88 (c : Com) : (Try.prog.info? 88).map (·.size) = some (gcL c).toArray.size := by rw [List.size_toArray, gcL_length]; kernel_rfl
theorem gcA_one (c : Com) : (gcL c).toArray.all (·.oneCell') = true := by
  rw [Array.all_eq_true']
  intro x hx
  exact gcL_one c x (by simpa using hx)

theorem wp_store_rowN {P : Program} {o : Oper} {a : Act} {w : World} {K : Act → World → Prop} {Q : Exit → Act → World → Prop} (hd : o.dst = none) (ty : TypeId) (x y : Operand) (ho : o.op = .store ty x y)
    (g : Nat) (cells : Array Value) (hx : a.eval x = .pointer (some ⟨g, 0, none⟩)) (hy : a.eval y = .agg cells)
    (t : TypeId) (old : Array Value) (hg : w.heap[g]? = some (.cells old t (0, 0))) (hi : (P.info? ty).map (·.size) = some cells.size)
    (hold : old.size = cells.size) (h1 : cells.all (·.oneCell') = true) (h : K a (w.setRow g cells)) : o.wp P a w K Q :=
  wp_store_row ty x y ho g cells hx hy t old hg hi hold h1 (by rw [hd]; exact h)
set_option maxRecDepth 10000 in
set_option maxHeartbeats 2000000 in
/-- ZZListCommit. -/
theorem listCommit_any (bl base : Nat) (w : World) (v0 v1 v2 v3 : Value) (n0 n1 n2 n3 : Nat) (x0 x1 x2 x3 : List Value) (h : LIs bl base w v0 v1 v2 v3 n0 n1 n2 n3 x0 x1 x2 x3)
    (k : Nat) (hk : k < n1) (c : Com) (hx : ∀ j u, (gcL c)[j]? = some u → x1[k * 37 + j]? = some u) :
    Calls Try.prog 40 #[.pointer (some ⟨bl, 0, none⟩), .int .i64 k] w fun e w' => e = .returned (.tuple #[.agg (row 33 c.tree), .slice none 0 0, .int .u64 c.time, .int .u32 0, .int .u64 0]) ∧ Below w.heap.size w w' := by
  obtain ⟨g, cap0, rfl, hg, hrr⟩ := owns_range h.o1 (by omega)
  have hr : ∀ o, (w.alloc o).rangeAt g (k * 37) (gcL c) := fun o => rangeAt_below (hrr (k * 37) _ hx) ((Below.refl _ _).alloc (Nat.le_refl _) _) hg
  have hc : ∀ o, (w.alloc o).cell? _ = some _ := fun o => (h.grown ((Below.refl _ _).alloc (Nat.le_refl _) o)).cellAt.2.1
  clear h hrr hx
  go_enter Try.func40, Try.ntmps40
  go_wp2_with (first
    | (refine wpList_load_midG (by rfl) 88 _ rfl _ _ rfl _ _ (hr _) Try.underlying88 rfl (Try.sizeL88 _) ?_)
    | (refine wpList_store_row rfl 88 _ _ rfl _ (gcL c).toArray rfl rfl 88 _ (heap_alloc2_new w _ _) (Try.sizeA88 _) (gcL_length c).symm (gcA_one _) ?_; rw [setRow2_new])
    | fail)
  simp only [Act.put]
  generalize hwa : World.alloc _ (Obj.cells (gcL c).toArray 88) = wa
  obtain ⟨zr, hz33, hB0⟩ : ∃ zr : Array Value, zr.size = 33 ∧ wa.heap[w.heap.size]? = some (.cells zr 25 (0, 0)) := by
    refine ⟨_, ?_, by rw [← hwa]; exact heap_alloc2_old w _ _⟩
    rfl
  have hm : Below w.heap.size w wa := by rw [← hwa]; exact two_below _ _ _
  have hB1 : wa.heap[w.heap.size + 1]? = some (.cells (gcL c).toArray 88 (0, 0)) := by rw [← hwa]; exact heap_alloc2_new w _ _
  clear hwa hr hc
  refine wp_region_held_drew (S := fun w' => w'.heap[w.heap.size + 1]? = some (.cells (gcL c).toArray 88 (0, 0))) (by kernel_rfl) hB1 (fun hHeld => ?_)
  refine takeV 0 17 _ rfl rfl (by kernel_rfl) (by kernel_rfl) (by kernel_rfl) (fun _ _ _ h => h) (by rfl) (fun wS hS => by (go_simp <;> with_reducible rfl)) hHeld ?_
  simp only [List.setIfInBounds_toArray, List.set_cons_zero, List.set_cons_succ]
  refine takeL 1 18 rfl rfl 25 _ rfl _ _ rfl _ _ (by kernel_rfl) (by kernel_rfl) (by kernel_rfl) (fun _ _ _ h => h) (by rfl) (fun wS hS => gc_tree (comBlock88 hS)) Try.underlying25 rfl (Try.sizeL25 _) hHeld ?_
  simp only [List.setIfInBounds_toArray, List.set_cons_zero, List.set_cons_succ]
  refine takeV 2 19 _ rfl rfl (by kernel_rfl) (by kernel_rfl) (by kernel_rfl) (fun _ _ _ h => h) (by rfl) (fun wS hS => by (go_simp <;> with_reducible rfl)) hHeld ?_
  simp only [List.setIfInBounds_toArray, List.set_cons_zero, List.set_cons_succ]
  refine takeV 3 20 _ rfl rfl (by kernel_rfl) (by kernel_rfl) (by kernel_rfl) (fun _ _ _ h => h) (by rfl) (fun wS hS => by have hcl := gc_33 (comBlock88 hS); (go_simp <;> with_reducible rfl)) hHeld ?_
  simp only [List.setIfInBounds_toArray, List.set_cons_zero, List.set_cons_succ]
  refine takeV 4 21 _ rfl rfl (by kernel_rfl) (by kernel_rfl) (by kernel_rfl) (fun _ _ _ h => h) (by rfl) (fun wS hS => by (go_simp <;> with_reducible rfl)) hHeld ?_
  simp only [List.setIfInBounds_toArray, List.set_cons_zero, List.set_cons_succ]
  refine takeV 5 22 _ rfl rfl (by kernel_rfl) (by kernel_rfl) (by kernel_rfl) (fun _ _ _ h => h) (by rfl) (fun wS hS => by have hcl := gc_34 (comBlock88 hS); (go_simp <;> with_reducible rfl)) hHeld ?_
  simp only [List.setIfInBounds_toArray, List.set_cons_zero, List.set_cons_succ]
  refine takeV 6 23 _ rfl rfl (by kernel_rfl) (by kernel_rfl) (by kernel_rfl) (fun _ _ _ h => h) (by rfl) (fun wS hS => by (go_simp <;> with_reducible rfl)) hHeld ?_
  simp only [List.setIfInBounds_toArray, List.set_cons_zero, List.set_cons_succ]
  refine takeV 7 24 _ rfl rfl (by kernel_rfl) (by kernel_rfl) (by kernel_rfl) (fun _ _ _ h => h) (by rfl) (fun wS hS => by have hcl := gc_35 (comBlock88 hS); (go_simp <;> with_reducible rfl)) hHeld ?_
  simp only [List.setIfInBounds_toArray, List.set_cons_zero, List.set_cons_succ]
  refine takeV 8 25 _ rfl rfl (by kernel_rfl) (by kernel_rfl) (by kernel_rfl) (fun _ _ _ h => h) (by rfl) (fun wS hS => by (go_simp <;> with_reducible rfl)) hHeld ?_
  simp only [List.setIfInBounds_toArray, List.set_cons_zero, List.set_cons_succ]
  refine takeV 9 26 _ rfl rfl (by kernel_rfl) (by kernel_rfl) (by kernel_rfl) (fun _ _ _ h => h) (by rfl) (fun wS hS => by have hcl := gc_36 (comBlock88 hS); (go_simp <;> with_reducible rfl)) hHeld ?_
  simp only [List.setIfInBounds_toArray, List.set_cons_zero, List.set_cons_succ]
  refine goOne 10 (by kernel_rfl) rfl (by rfl) (fun K hK => ?_)
  refine wp_store_rowN rfl 25 _ _ rfl w.heap.size (rowL 33 c.tree).toArray rfl rfl 25 zr hB0 (Try.size25 _) (by rw [hz33]; exact (rowL_length 33 c.tree).symm) (row_one _ _) ?_
  refine hK.out _ _ ((setRow_other wa.drew _ (w.heap.size + 1) _ (by omega)).trans hHeld) (fun hHeld => ?_)
  clear hK K
  refine takeV 11 5 _ rfl rfl (by kernel_rfl) (by kernel_rfl) (by kernel_rfl) (fun _ _ _ h => h) (by rfl) (fun wS hS => by (go_simp <;> with_reducible rfl)) hHeld ?_
  simp only [List.setIfInBounds_toArray, List.set_cons_zero, List.set_cons_succ]
  refine takeV 12 6 _ rfl rfl (by kernel_rfl) (by kernel_rfl) (by kernel_rfl) (fun _ _ _ h => h) (by rfl) (fun wS hS => by (go_simp <;> with_reducible rfl)) hHeld ?_
  simp only [List.setIfInBounds_toArray, List.set_cons_zero, List.set_cons_succ]
  refine takeV 13 7 _ rfl rfl (by kernel_rfl) (by kernel_rfl) (by kernel_rfl) (fun _ _ _ h => h) (by rfl) (fun wS hS => by (go_simp <;> with_reducible rfl)) hHeld ?_
  simp only [List.setIfInBounds_toArray, List.set_cons_zero, List.set_cons_succ]
  refine takeV 14 8 _ rfl rfl (by kernel_rfl) (by kernel_rfl) (by kernel_rfl) (fun _ _ _ h => h) (by rfl) (fun wS hS => by (go_simp <;> with_reducible rfl)) hHeld ?_
  simp only [List.setIfInBounds_toArray, List.set_cons_zero, List.set_cons_succ]
  refine wpAnyH_done (by kernel_rfl) ?_ _
  have hBn := setRow_heap wa.drew _ _ (rowL 33 c.tree).toArray _ _ hB0
  have hmn : Below w.heap.size w (wa.drew.setRow w.heap.size (rowL 33 c.tree).toArray) := hm.trans ⟨rfl, rfl, rfl, by simp, fun k hk => setRow_other wa.drew _ k _ (by omega)⟩
  generalize wa.drew.setRow w.heap.size (rowL 33 c.tree).toArray = wb at hBn hmn ⊢
  clear hB0 hB1 hm hHeld
  go_wp2
  exact bodyPost_ret (v := .tuple #[.agg (row 33 c.tree), .slice none 0 0, .int .u64 c.time, .int .u32 0, .int .u64 0]) (by simp [results, Try.results40, asAddr, run_loadVar_row wb w.heap.size 25 25 (rowL 33 c.tree).toArray (0, 0) _ hBn Try.underlying25 rfl (Try.size25 _)]; rfl) rfl ⟨rfl, hmn⟩
end Go.Proofs.Qxb6604526a
