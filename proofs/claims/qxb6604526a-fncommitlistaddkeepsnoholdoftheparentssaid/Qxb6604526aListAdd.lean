/-
  (*commitList).add and ZZListAdd, walked.
-/
import Derived.Test.Qxb6604526aAwp
namespace Go.Proofs.Qxb6604526a
open Go.RowKit

/-- The 35 cells of a commit. -/
def cmL (c : Com) (pv : Value) : List Value := rowL 33 c.tree ++ [pv, .int .u64 c.time]
theorem cmL_length (c : Com) (pv : Value) : (cmL c pv).length = 35 := by simp [cmL, rowL_length]
theorem built73 (c : Com) (ao : Option Addr) (n cap : Nat) : Try.prog.built 73 [(0, .agg (rowL 33 c.tree).toArray), (1, .slice ao n cap), (2, .int .u64 c.time)] = some (cmL c (.slice ao n cap)).toArray := by kernel_rfl
theorem built88 (c : Com) : Try.prog.built 88 [(0, .agg (rowL 33 c.tree).toArray), (2, .int .u64 c.time)] = some (gcL c).toArray := by kernel_rfl
theorem cmBlock {w : World} {c : Com} {pv : Value} {b : Nat} {t : TypeId} (h : w.heap[b]? = some (.cells (cmL c pv).toArray t (0, 0))) : w.rangeAt b 0 (cmL c pv) := fun j v hv => by
  rw [Nat.zero_add, cell_of_row w b j _ _ _ h]
  simpa using hv
theorem cm_tree {w : World} {b o : Nat} {c : Com} {pv : Value} (h : w.rangeAt b o (cmL c pv)) : w.rangeAt b o (rowL 33 c.tree) := fun j v hv =>
  h j v (by unfold cmL; rw [List.getElem?_append_left]; · exact hv
            · exact (List.getElem?_eq_some_iff.1 hv).1)
theorem cm_pv {w : World} {b o : Nat} {c : Com} {pv : Value} (h : w.rangeAt b o (cmL c pv)) : w.cell? ⟨b, o + 33, none⟩ = some pv :=
  h 33 pv (by simp [cmL, rowL_length])
theorem cm_time {w : World} {b o : Nat} {c : Com} {pv : Value} (h : w.rangeAt b o (cmL c pv)) : w.cell? ⟨b, o + 34, none⟩ = some (.int .u64 c.time) :=
  h 34 _ (by simp [cmL, rowL_length])
theorem psL_cell {w : World} {b off : Nat} {p : Nat → Nat → Int} : ∀ (np : Nat), (∀ j, j < np → w.rangeAt b (off + j * 33) (rowL 33 (p j))) → ∀ j u, (psL p np)[j]? = some u → w.cell? ⟨b, off + j, none⟩ = some u
  | 0, _, j, u, hj => by simp [psL] at hj
  | k + 1, h, j, u, hj => by
    unfold psL at hj
    by_cases hlt : j < k * 33
    · rw [List.getElem?_append_left (by rw [psL_length]; exact hlt)] at hj
      exact psL_cell k (fun j hj => h j (by omega)) j u hj
    · rw [List.getElem?_append_right (by rw [psL_length]; omega), psL_length] at hj
      have := h k (by omega) (j - k * 33) u hj
      rwa [show off + k * 33 + (j - k * 33) = off + j by omega] at this
theorem add_plain (b off j : Nat) : (⟨b, off, none⟩ : Addr).add j = ⟨b, off + j, none⟩ := by
  unfold Addr.add
  split
  · subst_vars; rfl
  · rfl
theorem ids_src {R : Nat → Prop} {w : World} {v : Value} {np : Nat} {p : Nat → Nat → Int} (h : IdsIn R w v np p) : (v = .slice none 0 0 ∧ np = 0 ∧ psL p np = []) ∨ ∃ ad c, v = .slice (some ad) np c ∧ ∀ j u, (psL p np)[j]? = some u → w.cell? (ad.add j) = some u := by
  obtain ⟨ao, cap, rfl, h1, h2⟩ := h
  cases ao with
  | none =>
    obtain ⟨rfl, rfl⟩ := h1 rfl
    exact Or.inl ⟨rfl, rfl, rfl⟩
  | some ad =>
    refine Or.inr ⟨ad, cap, rfl, ?_⟩
    by_cases h0 : 0 < np
    · obtain ⟨b, off, e, _, hr⟩ := h2 h0
      obtain rfl : ad = ⟨b, off, none⟩ := by simpa using e
      intro j u hj
      rw [add_plain]
      exact psL_cell np hr j u hj
    · obtain rfl : np = 0 := by omega
      intro j u hj
      simp [psL] at hj
theorem psL_one (p : Nat → Nat → Int) : ∀ np, ∀ v ∈ psL p np, v.oneCell' = true
  | 0 => by simp [psL]
  | k + 1 => by
    intro v hv
    unfold psL at hv
    rcases List.mem_append.1 hv with h | h
    · exact psL_one p k v h
    · exact rowL_one _ _ v h

set_option maxRecDepth 10000 in
set_option maxHeartbeats 2000000 in
/-- add. -/
theorem add_any (bl base : Nat) (c : Com) (pv : Value) (w : World) (v0 v1 v2 v3 : Value) (n0 n1 n2 n3 : Nat) (x0 x1 x2 x3 : List Value) (h : LIs bl base w v0 v1 v2 v3 n0 n1 n2 n3 x0 x1 x2 x3)
    (hp : IdsIn (· < w.heap.size) w pv c.np c.p) (b0 : (n0 : Int) ≤ 1048576) (b1 : (n1 : Int) ≤ 1048576) (b2 : (n2 : Int) + c.np ≤ 1048576) (b3 : (n3 : Int) ≤ 1048576) :
    Calls Try.prog 37 #[.pointer (some ⟨bl, 0, none⟩), .agg (row 33 c.id), .agg (cmL c pv).toArray] w fun e w' => e = .returned (.tuple #[]) ∧
      (∃ v0' v1' v2' v3', LIs bl base w' v0' v1' v2' v3' (n0 + 1) (n1 + 1) (n2 + c.np) (n3 + 1) (x0 ++ rowL 33 c.id) (x1 ++ gcL c) (x2 ++ psL c.p c.np) (x3 ++ [.int .i64 n2, .int .i64 (n2 + c.np : Nat)])) ∧ Below bl w w' := by
  obtain ⟨aop, capp, rfl, hpn⟩ := hp
  have hp : IdsIn (· < w.heap.size) w (.slice aop c.np capp) c.np c.p := ⟨aop, capp, rfl, hpn⟩
  have q2 := fun k e => (h.o2.lt k e).2
  have hbB : bl < w.heap.size := by have := h.lt; have := h.base; omega
  obtain ⟨ao0, cap0, rfl⟩ := owns_slice h.o0
  obtain ⟨ao1, cap1, rfl⟩ := owns_slice h.o1
  obtain ⟨ao2, cap2, rfl⟩ := owns_slice h.o2
  obtain ⟨ao3, cap3, rfl⟩ := owns_slice h.o3
  obtain ⟨i25, hi25, hz25, hs25, hy25⟩ := info_parts Try.info25
  have hcl : ((w.alloc (.cells (row 33 c.id) 25)).alloc (.cells (cmL c (.slice aop c.np capp)).toArray 73)).cell? ⟨bl, 2, none⟩ = some (.slice ao2 n2 cap2) := (h.grown (two_below _ _ _)).cellAt.2.2.1
  have hLa : LIs bl base ((w.alloc (.cells (row 33 c.id) 25)).alloc (.cells (cmL c (.slice aop c.np capp)).toArray 73)) _ _ _ _ _ _ _ _ _ _ _ _ := h.grown (two_below _ _ _)
  clear hpn
  go_enter Try.func37, Try.ntmps37
  go_wp2
  obtain ⟨wa, hwa⟩ : ∃ wa, wa = (w.alloc (.cells (row 33 c.id) 25)).alloc (.cells (cmL c (.slice aop c.np capp)).toArray 73) := ⟨_, rfl⟩
  rw [← hwa] at hLa ⊢
  have hm : Below bl w wa := by rw [hwa]; exact (two_below _ _ _).mono (by omega)
  have hpa : IdsIn (fun _ => True) wa (.slice aop c.np capp) c.np c.p := by rw [hwa]; exact (hp.below (two_below _ _ _) (fun _ h => h)).mono (fun _ _ => trivial)
  have hB0 : wa.heap[w.heap.size]? = some (.cells (row 33 c.id) 25 (0, 0)) := by rw [hwa]; exact heap_alloc2_old w _ _
  have hB1 : wa.heap[w.heap.size + 1]? = some (.cells (cmL c (.slice aop c.np capp)).toArray 73 (0, 0)) := by rw [hwa]; exact heap_alloc2_new w _ _
  have sz : w.heap.size + 1 < wa.heap.size := by rw [hwa]; simp
  clear hwa h hcl hp
  have hLd := hLa.drew
  have hcd := hLd.cellAt.2.2.1
  refine wp_region_held_drew (S := fun w' => w'.heap[w.heap.size]? = some (.cells (row 33 c.id) 25 (0, 0)) ∧ w'.heap[w.heap.size + 1]? = some (.cells (cmL c (.slice aop c.np capp)).toArray 73 (0, 0))) (by kernel_rfl) ⟨hB0, hB1⟩ (fun hHeld => ?_)
  refine takeV 0 12 _ rfl rfl (by kernel_rfl) (by kernel_rfl) (by kernel_rfl) (fun _ _ _ h => h) (by rfl) (fun wS hS => by (go_simp <;> with_reducible rfl)) hHeld ?_
  simp only [List.setIfInBounds_toArray, List.set_cons_zero, List.set_cons_succ]
  refine takeV 1 13 _ rfl rfl (by kernel_rfl) (by kernel_rfl) (by kernel_rfl) (fun _ _ _ h => h) (by rfl) (fun wS hS => by (go_simp <;> with_reducible rfl)) hHeld ?_
  simp only [List.setIfInBounds_toArray, List.set_cons_zero, List.set_cons_succ]
  refine takeV 2 14 _ rfl rfl (by kernel_rfl) (by kernel_rfl) (by kernel_rfl) (fun _ _ _ h => h) (by rfl) (fun wS hS => by (go_simp <;> with_reducible rfl)) hHeld ?_
  simp only [List.setIfInBounds_toArray, List.set_cons_zero, List.set_cons_succ]
  refine takeV 3 15 _ rfl rfl (by kernel_rfl) (by kernel_rfl) (by kernel_rfl) (fun _ _ _ h => h) (by rfl) (fun wS hS => by (go_simp <;> with_reducible rfl)) hHeld ?_
  simp only [List.setIfInBounds_toArray, List.set_cons_zero, List.set_cons_succ]
  refine takeV 5 17 _ rfl rfl (by kernel_rfl) (by kernel_rfl) (by kernel_rfl) (fun _ _ _ h => h) (by rfl) (fun wS hS => by (go_simp <;> with_reducible rfl)) hHeld ?_
  simp only [List.setIfInBounds_toArray, List.set_cons_zero, List.set_cons_succ]
  refine takeV 6 18 _ rfl rfl (by kernel_rfl) (by kernel_rfl) (by kernel_rfl) (fun _ _ _ h => h) (by rfl) (fun wS hS => by have hcl := cm_pv (cmBlock hS.2); (go_simp <;> with_reducible rfl)) hHeld ?_
  simp only [List.setIfInBounds_toArray, List.set_cons_zero, List.set_cons_succ]
  refine goOne 4 (by kernel_rfl) rfl (by rfl) (fun K hK => ?_)
  go_simp
  refine hK.out _ _ hHeld (fun hHeld => ?_)
  clear hK K
  refine goOne 7 (by kernel_rfl) rfl (by rfl) (fun K hK => ?_)
  refine wp_append_at 19 rfl (.tmp 16) (.tmp 18) 44 rfl base 25 i25 _ 33 33 Try.underlying44 hi25 hz25 hs25 hy25 (by rfl) (by decide) _ n2 x2 rfl hLd.o2 c.np (psL c.p c.np) _ rfl (ids_src (w := wa.drew) hpa) (psL_length _ _) (psL_one _ _) (by unfold maxLen; omega) (by omega) hLd.base (fun v' w2 ho hg hat => ?_)
  have hS2 : w2.heap[w.heap.size]? = some (.cells (row 33 c.id) 25 (0, 0)) ∧ w2.heap[w.heap.size + 1]? = some (.cells (cmL c (.slice aop c.np capp)).toArray 73 (0, 0)) := ⟨(keepA hg q2 (Nat.le_refl _) (show _ < wa.heap.size by omega)).trans hHeld.1, (keepA hg q2 (by omega) (show _ < wa.heap.size by omega)).trans hHeld.2⟩
  refine hK.out _ _ hS2 (fun hHeld => ?_)
  clear hK K
  simp only [List.setIfInBounds_toArray, List.set_cons_zero, List.set_cons_succ]
  refine takeV 8 20 _ rfl rfl (by kernel_rfl) (by kernel_rfl) (by kernel_rfl) (fun _ _ _ h => h) (by rfl) (fun wS hS => by (go_simp <;> with_reducible rfl)) hHeld ?_
  simp only [List.setIfInBounds_toArray, List.set_cons_zero, List.set_cons_succ]
  refine takeV 9 21 _ rfl rfl (by kernel_rfl) (by kernel_rfl) (by kernel_rfl) (fun _ _ _ h => h) (by rfl) (fun wS hS => by (go_simp <;> with_reducible rfl)) hHeld ?_
  simp only [List.setIfInBounds_toArray, List.set_cons_zero, List.set_cons_succ]
  refine goOne 10 (by kernel_rfl) rfl (by rfl) (fun K hK => ?_)
  have hcb := (hg.block bl (show bl < wa.heap.size by omega) (own_ne hLd.o2 hLd.lt)).trans hLd.cells
  have hc2 : w2.cell? ⟨bl, 2, none⟩ = some (.slice ao2 n2 cap2) := by simp [World.cell?, hcb]
  have hf2 : w2.frozen? ⟨bl, 2, none⟩ = false := by simp [World.frozen?, hcb]
  obtain ⟨aoN, capN, rfl⟩ := owns_slice ho
  go_simp
  have hLn := hLd.step2 ho hg hat
  have hmn : Below bl w (w2.setCell ⟨bl, 2, none⟩ (.slice aoN (n2 + c.np) capN)) := below_step hLd.o2 hLd.lt (hm.trans (Below.refl _ _).drew) (show bl ≤ wa.heap.size by omega) hg
  have szn : w.heap.size + 1 < (w2.setCell ⟨bl, 2, none⟩ (.slice aoN (n2 + c.np) capN)).heap.size := by have := hg.size; simp at this ⊢; omega
  have hSn : (w2.setCell ⟨bl, 2, none⟩ (.slice aoN (n2 + c.np) capN)).heap[w.heap.size]? = some (.cells (row 33 c.id) 25 (0, 0)) ∧ (w2.setCell ⟨bl, 2, none⟩ (.slice aoN (n2 + c.np) capN)).heap[w.heap.size + 1]? = some (.cells (cmL c (.slice aop c.np capp)).toArray 73 (0, 0)) := ⟨(heap_setCell_other w2 _ _ _ (by simp; omega)).trans hHeld.1, (heap_setCell_other w2 _ _ _ (by simp; omega)).trans hHeld.2⟩
  refine hK.out _ _ hSn (fun hH9 => ?_)
  clear hH9
  clear hK K
  refine wpAnyH_done (by kernel_rfl) ?_ _
  generalize w2.setCell ⟨bl, 2, none⟩ (.slice aoN (n2 + c.np) capN) = wb at hLn hmn szn hSn ⊢
  clear hB0 hB1
  clear hf2 hc2 hcb ho hg hat hS2 hHeld hLd hLa hm sz hcd hpa
  clear w2
  have hr1 := rangeAt_block hSn.1
  have hr2 := cm_tree (cmBlock hSn.2)
  have hct := cm_time (cmBlock hSn.2)
  clear hSn
  go_wp2_with (first
    | (refine wpList_load_midG (by rfl) 25 _ rfl _ _ rfl _ _ hr1 Try.underlying25 rfl (Try.sizeL25 _) ?_)
    | (refine wpList_load_midG (by rfl) 25 _ rfl _ _ rfl _ _ hr2 Try.underlying25 rfl (Try.sizeL25 _) ?_)
    | (refine wpList_build_to rfl 88 _ rfl (gcL c).toArray ?_ ?_; · (simp [Act.eval]; exact built88 c))
    | fail)
  refine (awp_any bl base c n2 wb _ _ _ _ _ _ _ _ _ _ _ _ hLn b0 b1 b3).mono ?_
  rintro e w3 ⟨rfl, ⟨v0', v1', v3', hL3⟩, hb3⟩
  clear hr1 hr2 hct
  go_wp2
  exact bodyPost_end (results_none Try.results37 _ _ _) rfl ⟨rfl, ⟨_, _, _, _, hL3⟩, hmn.trans hb3⟩

set_option maxRecDepth 10000 in
set_option maxHeartbeats 2000000 in
/-- ZZListAdd. -/
theorem listAdd_any (bl base : Nat) (c : Com) (pv : Value) (w : World) (v0 v1 v2 v3 : Value) (n0 n1 n2 n3 : Nat) (x0 x1 x2 x3 : List Value) (h : LIs bl base w v0 v1 v2 v3 n0 n1 n2 n3 x0 x1 x2 x3)
    (hp : IdsIn (· < w.heap.size) w pv c.np c.p) (b0 : (n0 : Int) ≤ 1048576) (b1 : (n1 : Int) ≤ 1048576) (b2 : (n2 : Int) + c.np ≤ 1048576) (b3 : (n3 : Int) ≤ 1048576) :
    Calls Try.prog 24 #[.pointer (some ⟨bl, 0, none⟩), .agg (row 33 c.id), .agg (row 33 c.tree), pv, .int .u64 c.time] w fun e w' => e = .returned (.tuple #[]) ∧
      (∃ v0' v1' v2' v3', LIs bl base w' v0' v1' v2' v3' (n0 + 1) (n1 + 1) (n2 + c.np) (n3 + 1) (x0 ++ rowL 33 c.id) (x1 ++ gcL c) (x2 ++ psL c.p c.np) (x3 ++ [.int .i64 n2, .int .i64 (n2 + c.np : Nat)])) ∧ Below bl w w' := by
  have hbB : bl < w.heap.size := by have := h.lt; have := h.base; omega
  obtain ⟨aop, capp, rfl, hpn⟩ := hp
  have hp : IdsIn (· < w.heap.size) w (.slice aop c.np capp) c.np c.p := ⟨aop, capp, rfl, hpn⟩
  clear hpn
  have hLa : LIs bl base ((w.alloc (.cells (row 33 c.id) 25)).alloc (.cells (row 33 c.tree) 25)) _ _ _ _ _ _ _ _ _ _ _ _ := h.grown (two_below _ _ _)
  have hr1 := rangeAt_block (heap_alloc2_old w (.cells (row 33 c.id) 25) (.cells (row 33 c.tree) 25))
  have hr2 := rangeAt_block (heap_alloc2_new w (.cells (row 33 c.id) 25) (.cells (row 33 c.tree) 25))
  have hpa : IdsIn (· < ((w.alloc (.cells (row 33 c.id) 25)).alloc (.cells (row 33 c.tree) 25)).heap.size) ((w.alloc (.cells (row 33 c.id) 25)).alloc (.cells (row 33 c.tree) 25)) (.slice aop c.np capp) c.np c.p := (hp.below (two_below _ _ _) (fun _ h => h)).mono (fun _ h => Nat.lt_of_lt_of_le h (two_below _ _ _).size)
  have hm : Below bl w ((w.alloc (.cells (row 33 c.id) 25)).alloc (.cells (row 33 c.tree) 25)) := (two_below _ _ _).mono (by omega)
  clear h hp
  go_enter Try.func24, Try.ntmps24
  go_wp2_with (first
    | (refine wpList_load_midG (by rfl) 25 _ rfl _ _ rfl _ _ hr1 Try.underlying25 rfl (Try.sizeL25 _) ?_)
    | (refine wpList_load_midG (by rfl) 25 _ rfl _ _ rfl _ _ hr2 Try.underlying25 rfl (Try.sizeL25 _) ?_)
    | (refine wpList_build_to rfl 73 _ rfl (cmL c (.slice aop c.np capp)).toArray ?_ ?_; · (simp [Act.eval]; exact built73 c _ _ _))
    | fail)
  refine (add_any bl base c (.slice aop c.np capp) _ _ _ _ _ _ _ _ _ _ _ _ _ hLa hpa b0 b1 b2 b3).mono ?_
  rintro e w3 ⟨rfl, hL3, hb3⟩
  have hm3 := hm.trans hb3
  clear hr1 hr2 hLa hpa hb3 hm
  go_wp2
  exact bodyPost_end (results_none Try.results24 _ _ _) rfl ⟨rfl, hL3, hm3⟩
end Go.Proofs.Qxb6604526a
