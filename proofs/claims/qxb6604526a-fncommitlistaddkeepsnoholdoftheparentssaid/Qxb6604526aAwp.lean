/-
  (*commitList).addWithParents, walked.
-/
import Derived.Test.Qxb6604526aList
namespace Go.Proofs.Qxb6604526a
open Go.RowKit

def zCom : Com := ⟨fun _ => 0, fun _ => 0, 0, fun _ _ => 0, 0⟩
theorem Try.info88 : (Try.prog.info? 88).map (fun i => (i.zero, i.size, i.bytes)) = some (some (.agg (gcL zCom).toArray), 37, 88) := by kernel_rfl
theorem Try.info90 : (Try.prog.info? 90).map (fun i => (i.zero, i.size, i.bytes)) = some (some (.agg #[.int .i64 0, .int .i64 0]), 2, 16) := by kernel_rfl
theorem Try.zs25 : (Try.prog.info? 25).map (fun i => (i.zero, i.size)) = some (some (.agg (row 33 fun _ => 0)), 33) := by kernel_rfl
theorem Try.zs88 : (Try.prog.info? 88).map (fun i => (i.zero, i.size)) = some (some (.agg (gcL zCom).toArray), 37) := by kernel_rfl
theorem Try.zs90 : (Try.prog.info? 90).map (fun i => (i.zero, i.size)) = some (some (.agg #[.int .i64 0, .int .i64 0]), 2) := by kernel_rfl
theorem fill25 (x : Nat → Int) : Instr.fill (fun i => some (i * 33, 33)) ((Array.range (1 * 33)).map (((Value.agg (row 33 fun _ => 0)).cells)[· % (Value.agg (row 33 fun _ => 0)).cells.size]!)) [(0, .agg (row 33 x))] = some (row 33 x) := by kernel_rfl
theorem fill88 (c : Com) : Instr.fill (fun i => some (i * 37, 37)) ((Array.range (1 * 37)).map (((Value.agg (gcL zCom).toArray).cells)[· % (Value.agg (gcL zCom).toArray).cells.size]!)) [(0, .agg (gcL c).toArray)] = some (gcL c).toArray := by kernel_rfl
theorem fill90 (s e : Int) : Instr.fill (fun i => some (i * 2, 2)) ((Array.range (1 * 2)).map (((Value.agg #[.int .i64 0, .int .i64 0]).cells)[· % (Value.agg #[.int .i64 0, .int .i64 0]).cells.size]!)) [(0, .agg #[.int .i64 s, .int .i64 e])] = some #[.int .i64 s, .int .i64 e] := by kernel_rfl
theorem Try.sizeL88 (c : Com) : (Try.prog.info? 88).map (·.size) = some (gcL c).length := by rw [gcL_length]; kernel_rfl
theorem keepB {wa w2 : World} {v u : Value} {bl i B B' : Nat} (hg : wa.grownBy w2 v.ownBlock) (q : ∀ k, v.ownBlock = some k → k < B) (h1 : B ≤ B') (h2 : B' < wa.heap.size) (hb : bl < B) : (w2.setCell ⟨bl, i, none⟩ u).heap[B']? = wa.heap[B']? :=
  (heap_setCell_other w2 ⟨bl, i, none⟩ B' u (by simp; omega)).trans (hg.block B' h2 (fun e => by have := q _ e.symm; omega))
theorem keepA {wa w2 : World} {v : Value} {B B' : Nat} (hg : wa.grownBy w2 v.ownBlock) (q : ∀ k, v.ownBlock = some k → k < B) (h1 : B ≤ B') (h2 : B' < wa.heap.size) : w2.heap[B']? = wa.heap[B']? :=
  hg.block B' h2 (fun e => by have := q _ e.symm; omega)
theorem heap_keep {wa : World} {o : Obj} {k : Nat} {x : Option Obj} (h : wa.heap[k]? = x) (hk : k < wa.heap.size) : (wa.alloc o).heap[k]? = x := (((Below.refl _ wa).alloc (Nat.le_refl _) o).block k hk).trans h
theorem run_op_buildSlice {P : Program} {ev : Operand → Value} {o : Oper} {w w1 : World} {t : TypeId} {n : Nat} {parts : Array (Nat × Operand)} {v : Value} (ho : o.op = .buildSlice t n parts) (h : (Instr.buildSlice t n (parts.map fun (i, x) => (i, ev x))).run P w = .ok v w1) : (execOp ev o).run P w = .ok (.value v) w1 := by
  unfold execOp
  simp only [ho, Sem.run_bind, h, Result.andThen_ok]
  rfl
theorem gcL_one (c : Com) : ∀ v ∈ gcL c, v.oneCell' = true := by
  intro v hv
  simp only [gcL, List.mem_append, List.mem_cons, List.not_mem_nil, or_false] at hv
  rcases hv with hv | rfl | rfl | rfl | rfl
  · exact rowL_one 33 c.tree v hv
  all_goals rfl
theorem new_cells {w : World} {cs : Array Value} {e : TypeId} {l : List Value} (hl : cs.toList = l) : ∀ j u, l[j]? = some u → (w.alloc (.cells cs e)).cell? ((⟨w.heap.size, 0, none⟩ : Addr).add j) = some u := by
  intro j u hj
  subst hl
  have hb : (w.alloc (.cells cs e)).heap[w.heap.size]? = some (.cells cs e (0, 0)) := heap_alloc_new w _
  simp only [Array.getElem?_toList] at hj
  have ha : (⟨w.heap.size, 0, none⟩ : Addr).add j = ⟨w.heap.size, j, none⟩ := by
    unfold Addr.add
    split
    · subst_vars; rfl
    · simp
  rw [ha]
  unfold World.cell?
  simp only [hb]
  exact hj
theorem comBlock88 {w : World} {c : Com} {b : Nat} {t : TypeId} (h : w.heap[b]? = some (.cells (gcL c).toArray t (0, 0))) : w.rangeAt b 0 (gcL c) := fun j v hv => by
  rw [Nat.zero_add]
  simp only [World.cell?, h]
  simpa using hv
theorem built90 (s e : Int) : Try.prog.built 90 [(0, .int .i64 s), (1, .int .i64 e)] = some #[.int .i64 s, .int .i64 e] := by kernel_rfl
theorem owns_slice {w : World} {base e size n : Nat} {v : Value} {x : List Value} (h : w.ownsRow base e size v n x) : ∃ ao cap, v = .slice ao n cap := by
  rcases h.2 with ⟨rfl, rfl⟩ | ⟨g, cap, cur, rfl, _⟩
  · exact ⟨none, 0, rfl⟩
  · exact ⟨_, cap, rfl⟩
theorem LIs.cellAt {bl base : Nat} {w : World} {v0 v1 v2 v3 : Value} {n0 n1 n2 n3 : Nat} {x0 x1 x2 x3 : List Value} (h : LIs bl base w v0 v1 v2 v3 n0 n1 n2 n3 x0 x1 x2 x3) :
    w.cell? ⟨bl, 0, none⟩ = some v0 ∧ w.cell? ⟨bl, 1, none⟩ = some v1 ∧ w.cell? ⟨bl, 2, none⟩ = some v2 ∧ w.cell? ⟨bl, 3, none⟩ = some v3 := by
  have hc := h.cells
  simp [World.cell?, hc]
set_option maxRecDepth 10000 in
set_option maxHeartbeats 2000000 in
/-- addWithParents. -/
theorem awp_any (bl base : Nat) (c : Com) (st : Int) (w : World) (v0 v1 v2 v3 : Value) (n0 n1 n2 n3 : Nat) (x0 x1 x2 x3 : List Value) (h : LIs bl base w v0 v1 v2 v3 n0 n1 n2 n3 x0 x1 x2 x3)
    (b0 : (n0 : Int) ≤ 1048576) (b1 : (n1 : Int) ≤ 1048576) (b3 : (n3 : Int) ≤ 1048576) :
    Calls Try.prog 47 #[.pointer (some ⟨bl, 0, none⟩), .agg (row 33 c.id), .agg (gcL c).toArray, .int .i64 st] w fun e w' => e = .returned (.tuple #[]) ∧
      (∃ v0' v1' v3', LIs bl base w' v0' v1' v2 v3' (n0 + 1) (n1 + 1) n2 (n3 + 1) (x0 ++ rowL 33 c.id) (x1 ++ gcL c) x2 (x3 ++ [.int .i64 st, .int .i64 n2])) ∧ Below bl w w' := by
  go_enter Try.func47, Try.ntmps47
  go_wp2
  have q0 := fun k e => (h.o0.lt k e).2
  have q1 := fun k e => (h.o1.lt k e).2
  have q3 := fun k e => (h.o3.lt k e).2
  have hbB : bl < w.heap.size := by have := h.lt; have := h.base; omega
  obtain ⟨wa, hwa⟩ : ∃ wa, wa = (w.alloc (.cells (row 33 c.id) 25)).alloc (.cells (gcL c).toArray 88) := ⟨_, rfl⟩
  rw [← hwa]
  have hLa : LIs bl base wa v0 v1 v2 v3 n0 n1 n2 n3 x0 x1 x2 x3 := by rw [hwa]; exact h.grown (two_below _ _ _)
  have hm : Below bl w wa := by rw [hwa]; exact (two_below _ _ _).mono (by omega)
  have hB0 : wa.heap[w.heap.size]? = some (.cells (row 33 c.id) 25 (0, 0)) := by rw [hwa]; exact heap_alloc2_old w _ _
  have hB1 : wa.heap[w.heap.size + 1]? = some (.cells (gcL c).toArray 88 (0, 0)) := by rw [hwa]; exact heap_alloc2_new w _ _
  have sz : w.heap.size + 1 < wa.heap.size := by rw [hwa]; simp
  clear hwa h
  obtain ⟨i25, hi25, hz25, hs25, hy25⟩ := info_parts Try.info25
  obtain ⟨i88, hi88, hz88, hs88, hy88⟩ := info_parts Try.info88
  obtain ⟨i90, hi90, hz90, hs90, hy90⟩ := info_parts Try.info90
  obtain ⟨ao0, cap0, rfl⟩ := owns_slice hLa.o0
  obtain ⟨ao1, cap1, rfl⟩ := owns_slice hLa.o1
  obtain ⟨ao2, cap2, rfl⟩ := owns_slice hLa.o2
  obtain ⟨ao3, cap3, rfl⟩ := owns_slice hLa.o3
  have hLd := hLa.drew
  have hcd := hLd.cellAt.1
  refine wp_region_held_drew (S := fun w' => w'.heap[w.heap.size]? = some (.cells (row 33 c.id) 25 (0, 0)) ∧ w'.heap[w.heap.size + 1]? = some (.cells (gcL c).toArray 88 (0, 0))) (by kernel_rfl) ⟨hB0, hB1⟩ (fun hHeld => ?_)
  refine takeV 0 8 _ rfl rfl (by kernel_rfl) (by kernel_rfl) (by kernel_rfl) (fun _ _ _ h => h) (by rfl) (fun wS hS => by (go_simp <;> with_reducible rfl)) hHeld ?_
  simp only [List.setIfInBounds_toArray, List.set_cons_zero, List.set_cons_succ]
  refine takeV 1 9 _ rfl rfl (by kernel_rfl) (by kernel_rfl) (by kernel_rfl) (fun _ _ _ h => h) (by rfl) (fun wS hS => by (go_simp <;> with_reducible rfl)) hHeld ?_
  simp only [List.setIfInBounds_toArray, List.set_cons_zero, List.set_cons_succ]
  refine takeV 2 10 _ rfl rfl (by kernel_rfl) (by kernel_rfl) (by kernel_rfl) (fun _ _ _ h => h) (by rfl) (fun wS hS => by (go_simp <;> with_reducible rfl)) hHeld ?_
  simp only [List.setIfInBounds_toArray, List.set_cons_zero, List.set_cons_succ]
  refine takeV 3 11 _ rfl rfl (by kernel_rfl) (by kernel_rfl) (by kernel_rfl) (fun _ _ _ h => h) (by rfl) (fun wS hS => by (go_simp <;> with_reducible rfl)) hHeld ?_
  simp only [List.setIfInBounds_toArray, List.set_cons_zero, List.set_cons_succ]
  refine takeL 5 13 rfl rfl 25 _ rfl _ _ rfl _ _ (by kernel_rfl) (by kernel_rfl) (by kernel_rfl) (fun _ _ _ h => h) (by rfl) (fun wS hS => rangeAt_block hS.1) Try.underlying25 rfl (Try.sizeL25 _) hHeld ?_
  simp only [List.setIfInBounds_toArray, List.set_cons_zero, List.set_cons_succ]
  have hL1 : LIs bl base (wa.drew.alloc (.cells (row 33 c.id) 25)) _ _ _ _ _ _ _ _ _ _ _ _ := hLd.grown ((Below.refl _ _).alloc (Nat.le_refl _) _)
  have hc1 : (wa.alloc (.cells (row 33 c.id) 25)).cell? _ = some _ := hL1.cellAt.1
  have hbs : ∀ z, z = wa.drew → (Instr.buildSlice 44 1 #[(0, .agg (row 33 c.id))]).run Try.prog z = .ok (.slice (some ⟨z.heap.size, 0, none⟩) 1 1) (z.alloc (.cells (row 33 c.id) 25)) := fun z _ => run_buildSlice_one z 44 25 33 _ (row 33 c.id) Try.underlying44 Try.zs25 (fill25 _) (by decide) (by decide)
  refine goTwo (w1 := wa.drew.alloc (.cells (row 33 c.id) 25)) 4 6 12 14 (.slice ao0 n0 cap0) (.slice (some ⟨wa.drew.heap.size, 0, none⟩) 1 1) (by kernel_rfl) rfl rfl rfl rfl (by decide) (by kernel_rfl) (by kernel_rfl) (by decide) (by rfl) (by rfl) (by rfl) (by rfl) (by (go_simp <;> with_reducible rfl)) (by (go_simp <;> with_reducible rfl)) (run_op_buildSlice rfl (by simp only [List.map_toArray, List.map_cons, List.map_nil]; exact hbs _ rfl)) (run_op_buildSlice rfl (by simp only [List.map_toArray, List.map_cons, List.map_nil]; exact hbs _ rfl)) hHeld ⟨heap_keep hHeld.1 (show _ < wa.heap.size by omega), heap_keep hHeld.2 (show _ < wa.heap.size by omega)⟩ ?_
  simp only [List.setIfInBounds_toArray, List.set_cons_zero, List.set_cons_succ]
  clear hbs hcd hc1
  refine goOne 7 (by kernel_rfl) rfl (by rfl) (fun K hK => ?_)
  refine wp_append_at 15 rfl (.tmp 12) (.tmp 14) 44 rfl base 25 i25 _ 33 33 Try.underlying44 hi25 hz25 hs25 hy25 (by rfl) (by decide) _ n0 x0 rfl hL1.o0 1 (rowL 33 c.id) _ rfl (Or.inr ⟨_, _, rfl, new_cells rfl⟩) (by rw [rowL_length]) (rowL_one _ _) (by unfold maxLen; omega) (by omega) hL1.base (fun v' w2 ho hg hat => ?_)
  have hS2 : w2.heap[w.heap.size]? = some (.cells (row 33 c.id) 25 (0, 0)) ∧ w2.heap[w.heap.size + 1]? = some (.cells (gcL c).toArray 88 (0, 0)) := ⟨(keepA hg q0 (Nat.le_refl _) (by simp; omega)).trans (heap_keep hHeld.1 (show _ < wa.heap.size by omega)), (keepA hg q0 (by omega) (by simp; omega)).trans (heap_keep hHeld.2 (show _ < wa.heap.size by omega))⟩
  refine hK.out _ _ hS2 (fun hHeld => ?_)
  clear hK K
  simp only [List.setIfInBounds_toArray, List.set_cons_zero, List.set_cons_succ]
  refine takeV 8 16 _ rfl rfl (by kernel_rfl) (by kernel_rfl) (by kernel_rfl) (fun _ _ _ h => h) (by rfl) (fun wS hS => by (go_simp <;> with_reducible rfl)) hHeld ?_
  simp only [List.setIfInBounds_toArray, List.set_cons_zero, List.set_cons_succ]
  refine takeV 9 17 _ rfl rfl (by kernel_rfl) (by kernel_rfl) (by kernel_rfl) (fun _ _ _ h => h) (by rfl) (fun wS hS => by (go_simp <;> with_reducible rfl)) hHeld ?_
  simp only [List.setIfInBounds_toArray, List.set_cons_zero, List.set_cons_succ]
  refine goOne 10 (by kernel_rfl) rfl (by rfl) (fun K hK => ?_)
  have hcb := (hg.block bl (by have := hL1.lt; have := hL1.base; omega) (own_ne hL1.o0 hL1.lt)).trans hL1.cells
  have hc2 : w2.cell? ⟨bl, 0, none⟩ = some (.slice ao0 n0 cap0) := by simp [World.cell?, hcb]
  have hf2 : w2.frozen? ⟨bl, 0, none⟩ = false := by simp [World.frozen?, hcb]
  obtain ⟨aoN, capN, rfl⟩ := owns_slice ho
  go_simp
  have hLn := hL1.step0 ho hg hat
  have hmn : Below bl w (w2.setCell ⟨bl, 0, none⟩ (.slice aoN (n0 + 1) capN)) := below_step hL1.o0 hL1.lt (((hm.trans (Below.refl _ _).drew)).alloc (show bl ≤ wa.heap.size by omega) _) (show bl ≤ (wa.drew.alloc _).heap.size by simp; omega) hg
  have szn : w.heap.size + 1 < (w2.setCell ⟨bl, 0, none⟩ (.slice aoN (n0 + 1) capN)).heap.size := by have := hg.size; simp at this ⊢; omega
  have hSn : (w2.setCell ⟨bl, 0, none⟩ (.slice aoN (n0 + 1) capN)).heap[w.heap.size]? = some (.cells (row 33 c.id) 25 (0, 0)) ∧ (w2.setCell ⟨bl, 0, none⟩ (.slice aoN (n0 + 1) capN)).heap[w.heap.size + 1]? = some (.cells (gcL c).toArray 88 (0, 0)) := ⟨(heap_setCell_other w2 _ _ _ (by simp; omega)).trans hHeld.1, (heap_setCell_other w2 _ _ _ (by simp; omega)).trans hHeld.2⟩
  refine hK.out _ _ hSn (fun hH9 => ?_)
  clear hH9
  clear hK K
  refine wpAnyH_done (by kernel_rfl) ?_ _
  generalize w2.setCell ⟨bl, 0, none⟩ (.slice aoN (n0 + 1) capN) = wb at hLn hmn szn hSn ⊢
  clear hB0 hB1
  obtain ⟨hB0, hB1⟩ := hSn
  clear hf2 hc2 hcb ho hg hat hS2 hHeld hL1 hLd hLa hm sz
  have hm := hmn
  have sz := szn
  clear hmn szn
  clear w2
  go_wp2
  have hLb := hLn
  clear hLn
  have hLd := hLb.drew
  have hcd := hLd.cellAt.2.1
  refine wp_region_held_drew (S := fun w' => w'.heap[w.heap.size]? = some (.cells (row 33 c.id) 25 (0, 0)) ∧ w'.heap[w.heap.size + 1]? = some (.cells (gcL c).toArray 88 (0, 0))) (by kernel_rfl) ⟨hB0, hB1⟩ (fun hHeld => ?_)
  refine takeV 0 18 _ rfl rfl (by kernel_rfl) (by kernel_rfl) (by kernel_rfl) (fun _ _ _ h => h) (by rfl) (fun wS hS => by (go_simp <;> with_reducible rfl)) hHeld ?_
  simp only [List.setIfInBounds_toArray, List.set_cons_zero, List.set_cons_succ]
  refine takeV 1 19 _ rfl rfl (by kernel_rfl) (by kernel_rfl) (by kernel_rfl) (fun _ _ _ h => h) (by rfl) (fun wS hS => by (go_simp <;> with_reducible rfl)) hHeld ?_
  simp only [List.setIfInBounds_toArray, List.set_cons_zero, List.set_cons_succ]
  refine takeV 2 20 _ rfl rfl (by kernel_rfl) (by kernel_rfl) (by kernel_rfl) (fun _ _ _ h => h) (by rfl) (fun wS hS => by (go_simp <;> with_reducible rfl)) hHeld ?_
  simp only [List.setIfInBounds_toArray, List.set_cons_zero, List.set_cons_succ]
  refine takeV 3 21 _ rfl rfl (by kernel_rfl) (by kernel_rfl) (by kernel_rfl) (fun _ _ _ h => h) (by rfl) (fun wS hS => by (go_simp <;> with_reducible rfl)) hHeld ?_
  simp only [List.setIfInBounds_toArray, List.set_cons_zero, List.set_cons_succ]
  refine takeL 5 23 rfl rfl 88 _ rfl _ _ rfl _ _ (by kernel_rfl) (by kernel_rfl) (by kernel_rfl) (fun _ _ _ h => h) (by rfl) (fun wS hS => comBlock88 hS.2) Try.underlying88 rfl (Try.sizeL88 _) hHeld ?_
  simp only [List.setIfInBounds_toArray, List.set_cons_zero, List.set_cons_succ]
  have hL1 : LIs bl base (wb.drew.alloc (.cells (gcL c).toArray 88)) _ _ _ _ _ _ _ _ _ _ _ _ := hLd.grown ((Below.refl _ _).alloc (Nat.le_refl _) _)
  have hc1 : (wb.alloc (.cells (gcL c).toArray 88)).cell? _ = some _ := hL1.cellAt.2.1
  have hbs : ∀ z, z = wb.drew → (Instr.buildSlice 45 1 #[(0, .agg (gcL c).toArray)]).run Try.prog z = .ok (.slice (some ⟨z.heap.size, 0, none⟩) 1 1) (z.alloc (.cells (gcL c).toArray 88)) := fun z _ => run_buildSlice_one z 45 88 37 _ (gcL c).toArray Try.underlying45 Try.zs88 (fill88 _) (by decide) (by decide)
  refine goTwo (w1 := wb.drew.alloc (.cells (gcL c).toArray 88)) 4 6 22 24 (.slice ao1 n1 cap1) (.slice (some ⟨wb.drew.heap.size, 0, none⟩) 1 1) (by kernel_rfl) rfl rfl rfl rfl (by decide) (by kernel_rfl) (by kernel_rfl) (by decide) (by rfl) (by rfl) (by rfl) (by rfl) (by (go_simp <;> with_reducible rfl)) (by (go_simp <;> with_reducible rfl)) (run_op_buildSlice rfl (by simp only [List.map_toArray, List.map_cons, List.map_nil]; exact hbs _ rfl)) (run_op_buildSlice rfl (by simp only [List.map_toArray, List.map_cons, List.map_nil]; exact hbs _ rfl)) hHeld ⟨heap_keep hHeld.1 (show _ < wb.heap.size by omega), heap_keep hHeld.2 (show _ < wb.heap.size by omega)⟩ ?_
  simp only [List.setIfInBounds_toArray, List.set_cons_zero, List.set_cons_succ]
  clear hbs hcd hc1
  refine goOne 7 (by kernel_rfl) rfl (by rfl) (fun K hK => ?_)
  refine wp_append_at 25 rfl (.tmp 22) (.tmp 24) 45 rfl base 88 i88 _ 37 88 Try.underlying45 hi88 hz88 hs88 hy88 (by rfl) (by decide) _ n1 x1 rfl hL1.o1 1 (gcL c) _ rfl (Or.inr ⟨_, _, rfl, new_cells rfl⟩) (by rw [gcL_length]) (gcL_one _) (by unfold maxLen; omega) (by omega) hL1.base (fun v' w2 ho hg hat => ?_)
  have hS2 : w2.heap[w.heap.size]? = some (.cells (row 33 c.id) 25 (0, 0)) ∧ w2.heap[w.heap.size + 1]? = some (.cells (gcL c).toArray 88 (0, 0)) := ⟨(keepA hg q1 (Nat.le_refl _) (by simp; omega)).trans (heap_keep hHeld.1 (show _ < wb.heap.size by omega)), (keepA hg q1 (by omega) (by simp; omega)).trans (heap_keep hHeld.2 (show _ < wb.heap.size by omega))⟩
  refine hK.out _ _ hS2 (fun hHeld => ?_)
  clear hK K
  simp only [List.setIfInBounds_toArray, List.set_cons_zero, List.set_cons_succ]
  refine takeV 8 26 _ rfl rfl (by kernel_rfl) (by kernel_rfl) (by kernel_rfl) (fun _ _ _ h => h) (by rfl) (fun wS hS => by (go_simp <;> with_reducible rfl)) hHeld ?_
  simp only [List.setIfInBounds_toArray, List.set_cons_zero, List.set_cons_succ]
  refine takeV 9 27 _ rfl rfl (by kernel_rfl) (by kernel_rfl) (by kernel_rfl) (fun _ _ _ h => h) (by rfl) (fun wS hS => by (go_simp <;> with_reducible rfl)) hHeld ?_
  simp only [List.setIfInBounds_toArray, List.set_cons_zero, List.set_cons_succ]
  refine goOne 10 (by kernel_rfl) rfl (by rfl) (fun K hK => ?_)
  have hcb := (hg.block bl (by have := hL1.lt; have := hL1.base; omega) (own_ne hL1.o1 hL1.lt)).trans hL1.cells
  have hc2 : w2.cell? ⟨bl, 1, none⟩ = some (.slice ao1 n1 cap1) := by simp [World.cell?, hcb]
  have hf2 : w2.frozen? ⟨bl, 1, none⟩ = false := by simp [World.frozen?, hcb]
  obtain ⟨aoN, capN, rfl⟩ := owns_slice ho
  go_simp
  have hLn := hL1.step1 ho hg
  have hmn : Below bl w (w2.setCell ⟨bl, 1, none⟩ (.slice aoN (n1 + 1) capN)) := below_step hL1.o1 hL1.lt (((hm.trans (Below.refl _ _).drew)).alloc (show bl ≤ wb.heap.size by omega) _) (show bl ≤ (wb.drew.alloc _).heap.size by simp; omega) hg
  have szn : w.heap.size + 1 < (w2.setCell ⟨bl, 1, none⟩ (.slice aoN (n1 + 1) capN)).heap.size := by have := hg.size; simp at this ⊢; omega
  have hSn : (w2.setCell ⟨bl, 1, none⟩ (.slice aoN (n1 + 1) capN)).heap[w.heap.size]? = some (.cells (row 33 c.id) 25 (0, 0)) ∧ (w2.setCell ⟨bl, 1, none⟩ (.slice aoN (n1 + 1) capN)).heap[w.heap.size + 1]? = some (.cells (gcL c).toArray 88 (0, 0)) := ⟨(heap_setCell_other w2 _ _ _ (by simp; omega)).trans hHeld.1, (heap_setCell_other w2 _ _ _ (by simp; omega)).trans hHeld.2⟩
  refine hK.out _ _ hSn (fun hH9 => ?_)
  clear hH9
  clear hK K
  refine wpAnyH_done (by kernel_rfl) ?_ _
  generalize w2.setCell ⟨bl, 1, none⟩ (.slice aoN (n1 + 1) capN) = wc at hLn hmn szn hSn ⊢
  clear hB0 hB1
  obtain ⟨hB0, hB1⟩ := hSn
  clear hf2 hc2 hcb ho hg hat hS2 hHeld hL1 hLd hLb hm sz
  have hm := hmn
  have sz := szn
  clear hmn szn
  clear w2
  go_wp2
  have hLc := hLn
  clear hLn
  have hLd := hLc.drew
  have hcd := hLd.cellAt.2.2.2
  refine wp_region_held_drew (S := fun w' => w'.cell? ⟨bl, 2, none⟩ = some (.slice ao2 n2 cap2)) (by kernel_rfl) hLd.cellAt.2.2.1 (fun hHeld => ?_)
  refine takeV 0 28 _ rfl rfl (by kernel_rfl) (by kernel_rfl) (by kernel_rfl) (fun _ _ _ h => h) (by rfl) (fun wS hS => by (go_simp <;> with_reducible rfl)) hHeld ?_
  simp only [List.setIfInBounds_toArray, List.set_cons_zero, List.set_cons_succ]
  refine takeV 1 29 _ rfl rfl (by kernel_rfl) (by kernel_rfl) (by kernel_rfl) (fun _ _ _ h => h) (by rfl) (fun wS hS => by (go_simp <;> with_reducible rfl)) hHeld ?_
  simp only [List.setIfInBounds_toArray, List.set_cons_zero, List.set_cons_succ]
  refine takeV 2 30 _ rfl rfl (by kernel_rfl) (by kernel_rfl) (by kernel_rfl) (fun _ _ _ h => h) (by rfl) (fun wS hS => by (go_simp <;> with_reducible rfl)) hHeld ?_
  simp only [List.setIfInBounds_toArray, List.set_cons_zero, List.set_cons_succ]
  refine takeV 3 31 _ rfl rfl (by kernel_rfl) (by kernel_rfl) (by kernel_rfl) (fun _ _ _ h => h) (by rfl) (fun wS hS => by (go_simp <;> with_reducible rfl)) hHeld ?_
  simp only [List.setIfInBounds_toArray, List.set_cons_zero, List.set_cons_succ]
  refine takeV 5 33 _ rfl rfl (by kernel_rfl) (by kernel_rfl) (by kernel_rfl) (fun _ _ _ h => h) (by rfl) (fun wS hS => by (go_simp <;> with_reducible rfl)) hHeld ?_
  simp only [List.setIfInBounds_toArray, List.set_cons_zero, List.set_cons_succ]
  refine takeV 6 34 _ rfl rfl (by kernel_rfl) (by kernel_rfl) (by kernel_rfl) (fun _ _ _ h => h) (by rfl) (fun wS hS => by (go_simp <;> with_reducible rfl)) hHeld ?_
  simp only [List.setIfInBounds_toArray, List.set_cons_zero, List.set_cons_succ]
  refine takeV 7 35 _ rfl rfl (by kernel_rfl) (by kernel_rfl) (by kernel_rfl) (fun _ _ _ h => h) (by rfl) (fun wS hS => by (go_simp <;> with_reducible rfl)) hHeld ?_
  simp only [List.setIfInBounds_toArray, List.set_cons_zero, List.set_cons_succ]
  refine takeV 8 36 _ rfl rfl (by kernel_rfl) (by kernel_rfl) (by kernel_rfl) (fun _ _ _ h => h) (by rfl) (fun wS hS => by (go_simp <;> with_reducible rfl)) hHeld ?_
  simp only [List.setIfInBounds_toArray, List.set_cons_zero, List.set_cons_succ]
  refine takeV 9 37 _ rfl rfl (by kernel_rfl) (by kernel_rfl) (by kernel_rfl) (fun _ _ _ h => h) (by rfl) (fun wS hS => by have hcl := hS; (go_simp <;> with_reducible rfl)) hHeld ?_
  simp only [List.setIfInBounds_toArray, List.set_cons_zero, List.set_cons_succ]
  refine takeV 10 38 _ rfl rfl (by kernel_rfl) (by kernel_rfl) (by kernel_rfl) (fun _ _ _ h => h) (by rfl) (fun wS hS => by (go_simp <;> with_reducible rfl)) hHeld ?_
  simp only [List.setIfInBounds_toArray, List.set_cons_zero, List.set_cons_succ]
  refine takeB 11 39 (#[.int .i64 st, .int .i64 n2]) rfl rfl _ _ rfl (by kernel_rfl) (by kernel_rfl) (by kernel_rfl) (fun _ _ _ h => h) (by rfl) (by simp [Act.eval]; exact built90 _ _) hHeld ?_
  simp only [List.setIfInBounds_toArray, List.set_cons_zero, List.set_cons_succ]
  have hL1 : LIs bl base (wc.drew.alloc (.cells #[.int .i64 st, .int .i64 n2] 90)) _ _ _ _ _ _ _ _ _ _ _ _ := hLd.grown ((Below.refl _ _).alloc (Nat.le_refl _) _)
  have hc1 : (wc.alloc (.cells #[.int .i64 st, .int .i64 n2] 90)).cell? _ = some _ := hL1.cellAt.2.2.2
  have hbs : ∀ z, z = wc.drew → (Instr.buildSlice 46 1 #[(0, .agg #[.int .i64 st, .int .i64 n2])]).run Try.prog z = .ok (.slice (some ⟨z.heap.size, 0, none⟩) 1 1) (z.alloc (.cells #[.int .i64 st, .int .i64 n2] 90)) := fun z _ => run_buildSlice_one z 46 90 2 _ #[.int .i64 st, .int .i64 n2] Try.underlying46 Try.zs90 (fill90 _ _) (by decide) (by decide)
  refine goTwo (w1 := wc.drew.alloc (.cells #[.int .i64 st, .int .i64 n2] 90)) 4 12 32 40 (.slice ao3 n3 cap3) (.slice (some ⟨wc.drew.heap.size, 0, none⟩) 1 1) (by kernel_rfl) rfl rfl rfl rfl (by decide) (by kernel_rfl) (by kernel_rfl) (by decide) (by rfl) (by rfl) (by rfl) (by rfl) (by (go_simp <;> with_reducible rfl)) (by (go_simp <;> with_reducible rfl)) (run_op_buildSlice rfl (by simp only [List.map_toArray, List.map_cons, List.map_nil]; exact hbs _ rfl)) (run_op_buildSlice rfl (by simp only [List.map_toArray, List.map_cons, List.map_nil]; exact hbs _ rfl)) hHeld hL1.cellAt.2.2.1 ?_
  simp only [List.setIfInBounds_toArray, List.set_cons_zero, List.set_cons_succ]
  clear hbs hcd hc1
  refine goOne 13 (by kernel_rfl) rfl (by rfl) (fun K hK => ?_)
  refine wp_append_at 41 rfl (.tmp 32) (.tmp 40) 46 rfl base 90 i90 _ 2 16 Try.underlying46 hi90 hz90 hs90 hy90 (by rfl) (by decide) _ n3 x3 rfl hL1.o3 1 [.int .i64 st, .int .i64 n2] _ rfl (Or.inr ⟨_, _, rfl, new_cells rfl⟩) (by rfl) (by simp [Value.oneCell']) (by unfold maxLen; omega) (by omega) hL1.base (fun v' w2 ho hg hat => ?_)
  have hcb := (hg.block bl (by have := hL1.lt; have := hL1.base; omega) (own_ne hL1.o3 hL1.lt)).trans hL1.cells
  refine hK.out _ _ (show w2.cell? ⟨bl, 2, none⟩ = _ by simp [World.cell?, hcb]) (fun hHeld => ?_)
  clear hK K
  simp only [List.setIfInBounds_toArray, List.set_cons_zero, List.set_cons_succ]
  refine takeV 14 42 _ rfl rfl (by kernel_rfl) (by kernel_rfl) (by kernel_rfl) (fun _ _ _ h => h) (by rfl) (fun wS hS => by (go_simp <;> with_reducible rfl)) hHeld ?_
  simp only [List.setIfInBounds_toArray, List.set_cons_zero, List.set_cons_succ]
  refine takeV 15 43 _ rfl rfl (by kernel_rfl) (by kernel_rfl) (by kernel_rfl) (fun _ _ _ h => h) (by rfl) (fun wS hS => by (go_simp <;> with_reducible rfl)) hHeld ?_
  simp only [List.setIfInBounds_toArray, List.set_cons_zero, List.set_cons_succ]
  refine goOne 16 (by kernel_rfl) rfl (by rfl) (fun K hK => ?_)
  have hc2 : w2.cell? ⟨bl, 3, none⟩ = some (.slice ao3 n3 cap3) := by simp [World.cell?, hcb]
  have hf2 : w2.frozen? ⟨bl, 3, none⟩ = false := by simp [World.frozen?, hcb]
  obtain ⟨aoN, capN, rfl⟩ := owns_slice ho
  go_simp
  have hLn := hL1.step3 ho hg
  have hmn : Below bl w (w2.setCell ⟨bl, 3, none⟩ (.slice aoN (n3 + 1) capN)) := below_step hL1.o3 hL1.lt (((hm.trans (Below.refl _ _).drew)).alloc (show bl ≤ wc.heap.size by omega) _) (show bl ≤ (wc.drew.alloc _).heap.size by simp; omega) hg
  refine hK.out _ _ hLn.cellAt.2.2.1 (fun hH9 => ?_)
  clear hH9
  clear hK K
  refine wpAnyH_done (by kernel_rfl) ?_ _
  generalize w2.setCell ⟨bl, 3, none⟩ (.slice aoN (n3 + 1) capN) = wd at hLn hmn ⊢
  clear hf2 hc2 hcb ho hg hat hHeld hL1 hLd hLc hm sz
  clear w2
  go_wp2
  exact bodyPost_end (results_none Try.results47 _ _ _) rfl ⟨rfl, ⟨_, _, _, hLn⟩, hmn⟩
end Go.Proofs.Qxb6604526a
