/-
  Arrays of four words and of 256 bools as blocks of cells, and small laws on worlds. (For the three laws on byteSet of seat b6604363a.)
-/
import Derived.Test.Qxb6604363aRows
import Derived.WalkKit
import Derived.WalkSpells
import Derived.WalkLawsBesides
import Derived.Deep.WholeRow
namespace Go.Proofs.Qxb6604363a
open Go.RowKit

def ucells (g : Nat → Int) : Array Value := #[.int .u64 (g 0), .int .u64 (g 1), .int .u64 (g 2), .int .u64 (g 3)]
def bcells (f : Nat → Bool) : Array Value := ((List.range 256).map fun i => .bool (f i)).toArray
theorem ucells_size (g : Nat → Int) : (ucells g).size = 4 := rfl
theorem bcells_size (f : Nat → Bool) : (bcells f).size = 256 := by simp [bcells]
theorem ucells_get (g : Nat → Int) (k : Nat) (h : k < 4) : (ucells g)[k]? = some (.int .u64 (g k)) := by
  match k, h with
  | 0, _ => rfl
  | 1, _ => rfl
  | 2, _ => rfl
  | 3, _ => rfl
theorem bcells_get (f : Nat → Bool) (k : Nat) (h : k < 256) : (bcells f)[k]? = some (.bool (f k)) := by
  simp [bcells, h]
theorem bcells_set (f : Nat → Bool) (k : Nat) (b : Bool) : (bcells f).setIfInBounds k (.bool b) = bcells (fun i => if i = k then b else f i) := by
  apply Array.ext_getElem?
  intro i
  rw [Array.getElem?_setIfInBounds, bcells_size]
  by_cases hi : i < 256
  · rw [bcells_get _ _ hi, bcells_get _ _ hi]
    by_cases e : k = i
    · subst e; simp [hi]
    · simp [e]; intro h; exact absurd h.symm e
  · have h1 : (bcells f)[i]? = none := Array.getElem?_eq_none (by rw [bcells_size]; omega)
    have h2 : (bcells (fun i => if i = k then b else f i))[i]? = none := Array.getElem?_eq_none (by rw [bcells_size]; omega)
    rw [h1, h2]
    split
    · simp; omega
    · rfl
theorem ucells_set (g : Nat → Int) (k : Nat) (x : Int) (h : k < 4) : (ucells g).setIfInBounds k (.int .u64 x) = ucells (fun i => if i = k then x else g i) := by
  match k, h with
  | 0, _ => rfl
  | 1, _ => rfl
  | 2, _ => rfl
  | 3, _ => rfl
theorem ucells_one (g : Nat → Int) : (ucells g).all (·.oneCell') = true := by simp [ucells, Value.oneCell']
theorem ucells_congr {g h : Nat → Int} (e : ∀ i, i < 4 → g i = h i) : ucells g = ucells h := by
  unfold ucells
  rw [e 0 (by omega), e 1 (by omega), e 2 (by omega), e 3 (by omega)]
theorem bcells_congr {g h : Nat → Bool} (e : ∀ i, i < 256 → g i = h i) : bcells g = bcells h := by
  apply Array.ext_getElem?
  intro i
  by_cases hi : i < 256
  · rw [bcells_get _ _ hi, bcells_get _ _ hi, e i hi]
  · rw [Array.getElem?_eq_none (by rw [bcells_size]; omega), Array.getElem?_eq_none (by rw [bcells_size]; omega)]
theorem setRow_alloc_lt (w : World) (o : Obj) (k : Nat) (cs : Array Value) (h : k < w.heap.size) : (w.alloc o).setRow k cs = (w.setRow k cs).alloc o := by
  simp only [World.setRow, World.alloc]
  congr 1
  apply Array.ext_getElem?
  intro i
  rw [Array.getElem?_modify, Array.getElem?_push, Array.getElem?_push]
  by_cases e : k = i
  · subst e
    have hne : ¬ k = w.heap.size := by omega
    simp [Array.getElem?_modify, hne]
  · simp [e, Array.getElem?_modify]
theorem heap3_new (w : World) (A B C : Obj) : (((w.alloc A).alloc B).alloc C).heap[w.heap.size + 1 + 1]? = some C := by
  have h := heap_alloc_new ((w.alloc A).alloc B) C
  rwa [show ((w.alloc A).alloc B).heap.size = w.heap.size + 1 + 1 by simp] at h
theorem heap3_mid (w : World) (A B C : Obj) : (((w.alloc A).alloc B).alloc C).heap[w.heap.size + 1]? = some B := by
  rw [heap_alloc_old _ _ (by simp)]
  exact heap_alloc2_new w A B
theorem setRow3_mid (w : World) (A C : Obj) (c c' : Array Value) (t : TypeId) : (((w.alloc A).alloc (.cells c t)).alloc C).setRow (w.heap.size + 1) c' = ((w.alloc A).alloc (.cells c' t)).alloc C := by
  rw [setRow_alloc_lt _ _ _ _ (by simp)]
  have := World.setRow_alloc_new (w.alloc A) c c' t
  rw [show (w.alloc A).heap.size = w.heap.size + 1 by simp] at this
  rw [this]
theorem setRow2_new (w : World) (A : Obj) (c c' : Array Value) (t : TypeId) : ((w.alloc A).alloc (.cells c t)).setRow (w.heap.size + 1) c' = (w.alloc A).alloc (.cells c' t) := by
  have := World.setRow_alloc_new (w.alloc A) c c' t
  rwa [show (w.alloc A).heap.size = w.heap.size + 1 by simp] at this
theorem grown_trans {a b c : World} (h : Grown a b) (k : Grown b c) : Grown a c :=
  ⟨World.keptBut_trans h.1 k.1, fun x => (k.2.1 x).trans (h.2.1 x), Nat.le_trans h.2.2 k.2.2⟩
theorem Try.info24 : (Try.prog.info? 24).map (fun i => (i.zero, i.size)) = some (some (.agg (bcells fun _ => false)), 256) := by kernel_rfl
theorem Try.zero24 : ∀ w, (zeroValue 24).run Try.prog w = .ok (.agg (bcells fun _ => false)) w := (zero_of_info Try.info24).1
theorem Try.size24 (f : Nat → Bool) : (Try.prog.info? 24).map (·.size) = some (bcells f).size := by rw [bcells_size]; exact (zero_of_info Try.info24).2
theorem Try.size23 (g : Nat → Int) : (Try.prog.info? 23).map (·.size) = some (ucells g).size := by rw [ucells_size]; kernel_rfl
theorem bcells_one (f : Nat → Bool) : (bcells f).all (·.oneCell') = true := by
  simp [bcells, Value.oneCell']
/-! ### '==' on arrays of integers -/
theorem run_equalIn_ints {P : Program} (w : World) (d : Nat) (t e : TypeId) (n : Nat) (k k' : IntKind) (ht : P.underlying t = some (.array n e)) (he : P.underlying e = some (.int k')) (hsz : ∀ w, (sizeOf e).run P w = .ok 1 w)
    (xs ys : Array Value) (x y : Nat → Int) (hx : ∀ i, i < n → xs[i]? = some (.int k (x i))) (hy : ∀ i, i < n → ys[i]? = some (.int k (y i))) :
    (Op.equalIn (d + 2) t (.agg xs) (.agg ys)).run P w = .ok ((List.range n).all fun i => x i == y i) w := by
  rw [List.range_eq_range', Op.equalIn]
  simp only [Sem.run_bind, run_underlying ht, Result.andThen_ok, hsz, Std.Legacy.Range.forIn_eq_forIn_range', Std.Legacy.Range.size, Nat.sub_zero, Nat.add_sub_cancel, Nat.div_one]
  have hl : ∀ i ∈ List.range' 0 n 1, i < n := fun i hi => by simpa using (List.mem_range'_1.1 hi).2
  generalize List.range' 0 n 1 = l at hl ⊢
  induction l with
  | nil => simp
  | cons i l ih =>
    have hi : i < n := hl i (by simp)
    have px : (part e xs (i * 1)).run P w = .ok (.int k (x i)) w := by
      simp [part, isAgg, run_underlying he, hx i hi]
    have py : (part e ys (i * 1)).run P w = .ok (.int k (y i)) w := by
      simp [part, isAgg, run_underlying he, hy i hi]
    have pe : (Op.equalIn (d + 1) e (.int k (x i)) (.int k (y i))).run P w = .ok (x i == y i) w := run_equalIn_int w d e k k' _ _ he
    simp only [List.forIn_cons, Sem.run_bind, px, py, pe, Result.andThen_ok, List.all_cons]
    cases hb : (x i == y i)
    · simp
    · simp only [Bool.not_true, Bool.false_eq_true, if_false, Sem.run_pure, Result.andThen_ok, Bool.true_and]
      exact ih fun j hj => hl j (by simp [hj])
/-- The four words are the same. -/
def eqU (g h : Nat → Int) : Bool := (List.range 4).all fun i => g i == h i
theorem eqU_iff {g h : Nat → Int} : eqU g h = true ↔ ∀ i, i < 4 → g i = h i := by
  simp [eqU]
theorem eqU_same (g : Nat → Int) : eqU g g = true := eqU_iff.2 fun _ _ => rfl
theorem Try.size22' : ∀ w, (sizeOf 22).run Try.prog w = .ok 1 w := fun w => by
  have h : (Try.prog.info? 22).map (·.size) = some 1 := by kernel_rfl
  cases hq : Try.prog.info? 22 with
  | none => simp [hq] at h
  | some i =>
    have : i.size = 1 := by simpa [hq] using h
    simp [sizeOf, typeInfo, hq, this]
theorem run_eq23 (g h : Nat → Int) (w : World) : (Op.equalIn 10000 23 (.agg (ucells g)) (.agg (ucells h))).run Try.prog w = .ok (eqU g h) w :=
  run_equalIn_ints w 9998 23 22 4 .u64 .u64 Try.underlying23 Try.underlying22 Try.size22' _ _ g h (fun i hi => ucells_get g i hi) (fun i hi => ucells_get h i hi)
end Go.Proofs.Qxb6604363a
