/-
  FnByteSetAddIsSetInsert, walked.
-/
import Derived.Test.Qxb6604363aAdd
namespace Go.Proofs.Qxb6604363a
open Go.RowKit

/-- decode, said of a world that is a letter: what a caller wants. -/
theorem dec_call (g : Nat → Int) (w : World) (hg : ∀ i, 0 ≤ g i ∧ g i < 18446744073709551616) :
    Calls Try.prog 11 #[.agg (ucells g)] w fun e w' => e = .returned (.agg (bcells (decTo g 256))) ∧ Below w.heap.size w w' :=
  (dec_any g w hg).mono fun _ _ ⟨h1, h2⟩ => ⟨h1, by subst h2; exact ((((Below.refl _ _).alloc (Nat.le_refl _) _).alloc (by simp) _).alloc (by simp; omega) _)⟩
theorem enc_call (f : Nat → Bool) (w : World) :
    Calls Try.prog 12 #[.agg (bcells f)] w fun e w' => e = .returned (.agg (ucells (encTo f 4))) ∧ Below w.heap.size w w' :=
  (enc_any f w).mono fun _ _ ⟨h1, h2⟩ => ⟨h1, by subst h2; exact ((((Below.refl _ _).alloc (Nat.le_refl _) _).alloc (by simp) _).alloc (by simp; omega) _)⟩

set_option maxRecDepth 10000 in
set_option maxHeartbeats 400000 in
theorem ins_walk (g : Nat → Int) (c : Int) (hg : ∀ i, 0 ≤ g i ∧ g i < 18446744073709551616) (hc0 : 0 ≤ c) (hc1 : c < 256) (w : World) :
    Calls Try.prog 3 #[.agg (ucells g), .int .u8 c] w fun e w' => e = .returned (.bool true) ∧ Below w.heap.size w w' := by
  have z24 := Try.zero24
  have hm := bcells_get (decTo g 256) c.toNat (by omega)
  go_enter Try.func3, Try.ntmps3
  go_wp2_with (refine wpList_load_row rfl 23 _ rfl _ rfl 23 _ (0, 0) _ (heap_alloc_new w _) Try.underlying23 rfl (Try.size23 _) ?_)
  refine (dec_call g _ hg).mono ?_
  rintro e w1 ⟨rfl, hb1⟩
  have hs1 : w.heap.size < w1.heap.size := by have := hb1.size; simp at this; omega
  have h1 : w1.heap[w.heap.size]? = some (.cells (ucells g) 23 (0, 0)) := (hb1.block _ (by simp)).trans (heap_alloc_new w _)
  have hgw : Below w.heap.size w w1 := ((Below.refl _ _).alloc (Nat.le_refl _) _).trans (hb1.mono (by simp))
  clear hb1
  go_wp2_with (first
    | (refine wpList_store_row rfl 24 _ _ rfl _ _ rfl rfl 24 _ (heap_alloc_new w1 _) (Try.size24 _) (by rw [bcells_size, bcells_size]) (bcells_one _) ?_; rw [World.setRow_alloc_new])
    | (rw [bcells_insB]; refine wpList_load_row rfl 24 _ rfl _ rfl 24 _ (0, 0) _ (heap_alloc_new w1 _) Try.underlying24 rfl (Try.size24 _) ?_))
  refine (enc_call _ _).mono ?_
  rintro e w2 ⟨rfl, hb2⟩
  rw [enc_ins g c hc0 hc1 hg]
  have hs2 : w.heap.size < w2.heap.size := by have := hb2.size; simp at this; omega
  have h2 : w2.heap[w.heap.size]? = some (.cells (ucells g) 23 (0, 0)) := (hb2.block _ (by simp; omega)).trans ((heap_alloc_old _ _ hs1).trans h1)
  have hgw2 : Below w.heap.size w w2 := (hgw.alloc (by omega) _).trans (hb2.mono (by simp; omega))
  clear hb2 h1 hs1 hgw hm z24
  have hn1 := heap_alloc_old w2 (.cells (ucells (insG g c)) 23) hs2
  go_wp2_with (first
    | (refine wpList_store_row rfl 23 _ _ rfl _ (ucells (insG g c)) rfl rfl 23 _ (heap_alloc_new w2 _) (Try.size23 _) rfl (ucells_one _) ?_; rw [World.setRow_alloc_new])
    | (refine wpList_load_row rfl 23 _ rfl _ rfl 23 _ (0, 0) _ (hn1.trans h2) Try.underlying23 rfl (Try.size23 _) ?_)
    | (refine wpList_store_row rfl 23 _ _ rfl _ (ucells g) rfl rfl 23 _ (heap_alloc2_new w2 _ _) (Try.size23 _) rfl (ucells_one _) ?_; rw [setRow2_new]))
  refine (zzAdd_any _ g 23 c _ hc0 hc1 (heap_alloc2_new w2 _ _)).mono ?_
  rintro e w3 ⟨rfl, rfl⟩
  rw [setRow2_new]
  clear h2 hn1
  have n1 : ((w2.alloc (.cells (ucells (insG g c)) 23)).alloc (.cells (ucells (insG g c)) 23)).drew.heap[w2.heap.size + 1]? = some (.cells (ucells (insG g c)) 23 (0, 0)) := heap_alloc2_new w2 _ _
  have n2 : ((w2.alloc (.cells (ucells (insG g c)) 23)).alloc (.cells (ucells (insG g c)) 23)).drew.heap[w2.heap.size]? = some (.cells (ucells (insG g c)) 23 (0, 0)) := heap_alloc2_old w2 _ _
  have hg3 : Below w.heap.size w ((w2.alloc (.cells (ucells (insG g c)) 23)).alloc (.cells (ucells (insG g c)) 23)).drew := ((hgw2.alloc (by omega) _).alloc (by simp; omega) _).drew
  generalize ((w2.alloc (.cells (ucells (insG g c)) 23)).alloc (.cells (ucells (insG g c)) 23)).drew = w3 at *
  clear hgw2 hs2
  have he : ∀ w, (Op.equalIn 10000 23 (.agg (ucells (insG g c))) (.agg (ucells (insG g c)))).run Try.prog w = .ok true w := fun w => by rw [run_eq23, eqU_same]
  go_wp2_with (refine wpList_load_row rfl 23 _ rfl _ rfl 23 (ucells (insG g c)) (0, 0) _ ?_ Try.underlying23 rfl (Try.size23 _) ?_; · first | exact n1 | exact n2)
  go_ret
  exact ⟨rfl, hg3⟩
end Go.Proofs.Qxb6604363a
