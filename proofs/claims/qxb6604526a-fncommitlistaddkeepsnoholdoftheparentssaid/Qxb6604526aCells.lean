/-
  Rows of bytes as blocks of cells, and small laws on worlds. (For the laws of seat b6604526a.)
-/
import Derived.Test.Qxb6604526aRows
import Derived.WalkKit
import Derived.WalkSpells
import Derived.WalkLawsBesides
import Derived.Deep.WholeRow
import Derived.Deep.MidRow
namespace Go.Proofs.Qxb6604526a
open Go.RowKit

/-- n byte cells: the numbers x 0 .. x (n - 1). -/
def rowL (n : Nat) (x : Nat → Int) : List Value := (List.range n).map fun i => .int .u8 (x i)
def row (n : Nat) (x : Nat → Int) : Array Value := (rowL n x).toArray
theorem rowL_length (n : Nat) (x : Nat → Int) : (rowL n x).length = n := by simp [rowL]
theorem row_size (n : Nat) (x : Nat → Int) : (row n x).size = n := by simp [row, rowL]
theorem row_get (n : Nat) (x : Nat → Int) (k : Nat) (h : k < n) : (row n x)[k]? = some (.int .u8 (x k)) := by
  simp [row, rowL, h]
theorem row_one (n : Nat) (x : Nat → Int) : (row n x).all (·.oneCell') = true := by
  simp [row, rowL, Value.oneCell']
theorem row_congr {n : Nat} {x y : Nat → Int} (e : ∀ i, i < n → x i = y i) : row n x = row n y := by
  unfold row rowL
  congr 1
  apply List.map_congr_left
  intro i hi
  rw [e i (by simpa using hi)]
/-- An ID: 32 bytes and their count. -/
def idOf (z : Nat → Int) (n : Int) (i : Nat) : Int := if i < 32 then z i else n
theorem row33 (z : Nat → Int) (n : Int) : row 32 z ++ #[.int .u8 n] = row 33 (idOf z n) := by
  apply Array.ext_getElem?
  intro i
  by_cases h : i < 33
  · rw [row_get _ _ _ h]
    by_cases h2 : i < 32
    · rw [Array.getElem?_append_left (by rw [row_size]; exact h2), row_get _ _ _ h2]
      simp [idOf, h2]
    · have : i = 32 := by omega
      subst this
      rw [Array.getElem?_append_right (by rw [row_size]; omega), row_size]
      simp [idOf]
  · rw [Array.getElem?_eq_none (by simp [row_size]; omega), Array.getElem?_eq_none (by rw [row_size]; omega)]

theorem Try.size22 (z : Nat → Int) : (Try.prog.info? 22).map (·.size) = some (row 32 z).size := by rw [row_size]; kernel_rfl
theorem Try.size25 (z : Nat → Int) : (Try.prog.info? 25).map (·.size) = some (row 33 z).size := by rw [row_size]; kernel_rfl

/-! ### Worlds -/
theorem setRow_alloc_lt (w : World) (o : Obj) (k : Nat) (cs : Array Value) (h : k < w.heap.size) : (w.alloc o).setRow k cs = (w.setRow k cs).alloc o := by
  simp only [World.setRow, World.alloc]
  congr 1
  apply Array.ext_getElem?
  intro i
  rw [Array.getElem?_modify, Array.getElem?_push, Array.getElem?_push]
  by_cases e : k = i
  · subst e
    have hne : ¬ k = w.heap.size := by omega
    simp [Array.getElem?_modify, hne]
  · simp [e, Array.getElem?_modify]
theorem setRow2_new (w : World) (A : Obj) (c c' : Array Value) (t : TypeId) : ((w.alloc A).alloc (.cells c t)).setRow (w.heap.size + 1) c' = (w.alloc A).alloc (.cells c' t) := by
  have := World.setRow_alloc_new (w.alloc A) c c' t
  rwa [show (w.alloc A).heap.size = w.heap.size + 1 by simp] at this

/-! ### A whole array or struct loaded under a guard that says yes -/
theorem wpList_load_rowG {P : Program} {ops : Array Oper} {rest : List Oper} {o : Oper} {a : Act} {w : World} {Q : Exit → Act → World → Prop} (hw : Region.wanted o (yielded ops a.tmps) = true) (ty : TypeId) (x : Operand) (ho : o.op = .load ty x)
    (g : Nat) (hx : a.eval x = .pointer (some ⟨g, 0, none⟩)) (t : TypeId) (cs : Array Value) (fr : Nat × Nat) (d : TypeDesc) (hg : w.heap[g]? = some (.cells cs t fr))
    (hu : P.underlying ty = some d) (hd : (match d with | .struct _ | .array _ _ => true | _ => false) = true) (hi : (P.info? ty).map (·.size) = some cs.size)
    (h : wpList P ops Q rest (a.put o.dst (.agg cs)) w) : wpList P ops Q (o :: rest) a w :=
  BigFrame.wpList_want hw fun _ hK => wp_load_row ty x ho g hx t cs fr d hg hu hd hi (hK _ _ h)

/-! ### '==' on arrays of integers -/
theorem run_equalIn_ints {P : Program} (w : World) (d : Nat) (t e : TypeId) (n : Nat) (k k' : IntKind) (ht : P.underlying t = some (.array n e)) (he : P.underlying e = some (.int k')) (hsz : ∀ w, (sizeOf e).run P w = .ok 1 w)
    (xs ys : Array Value) (x y : Nat → Int) (hx : ∀ i, i < n → xs[i]? = some (.int k (x i))) (hy : ∀ i, i < n → ys[i]? = some (.int k (y i))) :
    (Op.equalIn (d + 2) t (.agg xs) (.agg ys)).run P w = .ok ((List.range n).all fun i => x i == y i) w := by
  rw [List.range_eq_range', Op.equalIn]
  simp only [Sem.run_bind, run_underlying ht, Result.andThen_ok, hsz, Std.Legacy.Range.forIn_eq_forIn_range', Std.Legacy.Range.size, Nat.sub_zero, Nat.add_sub_cancel, Nat.div_one]
  have hl : ∀ i ∈ List.range' 0 n 1, i < n := fun i hi => by simpa using (List.mem_range'_1.1 hi).2
  generalize List.range' 0 n 1 = l at hl ⊢
  induction l with
  | nil => simp
  | cons i l ih =>
    have hi : i < n := hl i (by simp)
    have px : (part e xs (i * 1)).run P w = .ok (.int k (x i)) w := by
      simp [part, isAgg, run_underlying he, hx i hi]
    have py : (part e ys (i * 1)).run P w = .ok (.int k (y i)) w := by
      simp [part, isAgg, run_underlying he, hy i hi]
    have pe : (Op.equalIn (d + 1) e (.int k (x i)) (.int k (y i))).run P w = .ok (x i == y i) w := run_equalIn_int w d e k k' _ _ he
    simp only [List.forIn_cons, Sem.run_bind, px, py, pe, Result.andThen_ok, List.all_cons]
    cases hb : (x i == y i)
    · simp
    · simp only [Bool.not_true, Bool.false_eq_true, if_false, Sem.run_pure, Result.andThen_ok, Bool.true_and]
      exact ih fun j hj => hl j (by simp [hj])
end Go.Proofs.Qxb6604526a
