/-
  The commit list in memory; (*commitList).addWithParents, add and ZZListAdd, walked.
-/
import Derived.Test.Qxb6604526aClone2
import Derived.Maps.AppendAt
import Derived.Laws.AppendOwnNone
namespace Go.Proofs.Qxb6604526a
open Go.RowKit

/-- The 37 cells of a graphCommit as add lays it. -/
def gcL (c : Com) : List Value := rowL 33 c.tree ++ [.slice none 0 0, .int .u64 c.time, .int .u32 0, .int .u64 0]
theorem gcL_length (c : Com) : (gcL c).length = 37 := by simp [gcL, rowL_length]
/-- The parents' IDs, one behind the other. -/
def psL (p : Nat → Nat → Int) : Nat → List Value
  | 0 => []
  | k + 1 => psL p k ++ rowL 33 (p k)
theorem psL_length (p : Nat → Nat → Int) : ∀ k, (psL p k).length = k * 33
  | 0 => rfl
  | k + 1 => by rw [psL, List.length_append, psL_length p k, rowL_length]; omega
def flatIds (c : Nat → Com) : Nat → List Value
  | 0 => []
  | k + 1 => flatIds c k ++ rowL 33 (c k).id
def flatComs (c : Nat → Com) : Nat → List Value
  | 0 => []
  | k + 1 => flatComs c k ++ gcL (c k)
def flatPs (c : Nat → Com) : Nat → List Value
  | 0 => []
  | k + 1 => flatPs c k ++ psL (c k).p (c k).np
def flatSpans (c : Nat → Com) : Nat → List Value
  | 0 => []
  | k + 1 => flatSpans c k ++ [.int .i64 (sumNp c k), .int .i64 (sumNp c (k + 1))]

/-- The list at block bl holds the ids, commits, parents, spans xs0 .. xs3. -/
structure LIs (bl base : Nat) (w : World) (v0 v1 v2 v3 : Value) (n0 n1 n2 n3 : Nat) (x0 x1 x2 x3 : List Value) : Prop where
  cells : w.heap[bl]? = some (.cells #[v0, v1, v2, v3] 48 (0, 0))
  o0 : w.ownsRow base 25 33 v0 n0 x0
  o1 : w.ownsRow base 88 37 v1 n1 x1
  o2 : w.ownsRow base 25 33 v2 n2 x2
  o3 : w.ownsRow base 90 2 v3 n3 x3
  apart : v0.ownBlock = none ∨ v2.ownBlock = none ∨ v0.ownBlock ≠ v2.ownBlock
  lt : bl < base
  base : base ≤ w.heap.size

/-- Two owned rows of two element types lie in two blocks. -/
theorem owns_apart {w : World} {base e e' size size' n n' : Nat} {v v' : Value} {x x' : List Value} (h : w.ownsRow base e size v n x) (h' : w.ownsRow base e' size' v' n' x') (hne : e ≠ e') : v.ownBlock = none ∨ v.ownBlock ≠ v'.ownBlock := by
  rcases h.2 with ⟨rfl, _⟩ | ⟨g, cap, cur, rfl, _, hg, _⟩
  · exact Or.inl rfl
  · right
    rcases h'.2 with ⟨rfl, _⟩ | ⟨g', cap', cur', rfl, _, hg', _⟩
    · simp [Value.ownBlock]
    · simp only [Value.ownBlock, ne_eq, Option.some.injEq]
      intro eq
      subst eq
      rw [hg] at hg'
      simp at hg'
      exact hne hg'.2

/-! ### append at an operation, and where the new slice lies -/
theorem wp_append_at {P : Program} {o : Oper} {a : Act} {w : World} {K : Act → World → Prop} {Q : Exit → Act → World → Prop} (d : Nat) (hd : o.dst = some d) (s x : Operand) (t : TypeId)
    (ho : o.op = .call { callee := .builtin .append, args := #[s, x], argTypes := #[t, t] })
    (base : Nat) (e : TypeId) (i : TypeInfo) (z : Value) (size bytes : Nat) (ht : P.underlying t = some (.slice e)) (hi : P.info? e = some i) (hz : i.zero = some z)
    (hsize : i.size = size) (hby : i.bytes = bytes) (hzs : z.cells.size = size) (hsz : 0 < size)
    (v : Value) (n : Nat) (xs : List Value) (hs : a.eval s = v) (hown : w.ownsRow base e size v n xs)
    (m : Nat) (news : List Value) (xv : Value) (hx : a.eval x = xv) (hsrc : (xv = .slice none 0 0 ∧ m = 0 ∧ news = []) ∨ ∃ ad c, xv = .slice (some ad) m c ∧ ∀ j u, news[j]? = some u → w.cell? (ad.add j) = some u)
    (hl : news.length = m * size) (h1 : ∀ u ∈ news, u.oneCell' = true)
    (h63 : n + m ≤ maxLen) (hbytes : (n + m) * bytes ≤ 140737488355328) (hbase : base ≤ w.heap.size)
    (h : ∀ v' w', w'.ownsRow base e size v' (n + m) (xs ++ news) → w.grownBy w' v.ownBlock → (v'.ownBlock = v.ownBlock ∨ v'.ownBlock = some w.heap.size) → K ⟨a.tmps.setIfInBounds d v', a.defers⟩ w') : o.wp P a w K Q := by
  have hput : ∀ v', a.put o.dst v' = ⟨a.tmps.setIfInBounds d v', a.defers⟩ := fun v' => by rw [hd]; rfl
  rcases hsrc with ⟨rfl, rfl, rfl⟩ | ⟨ad, c, rfl, hnews⟩
  · have hr := run_append_owned_none (P := P) w base t o.type e i size ht hi v n xs hown
    unfold Oper.wp execOp
    simp only [ho, resolve, invoke, builtin, Sem.run_bind, Sem.run_pure, Result.andThen_ok, List.map_toArray, List.map_cons, List.map_nil, hs, hx, hr]
    show K (a.put o.dst v) w
    rw [hput]
    exact h v w (by simpa using hown) ⟨rfl, rfl, rfl, Nat.le_refl _, fun _ _ _ => rfl⟩ (Or.inl rfl)
  · obtain ⟨v', w', hr, h2, h3, _, h5⟩ := run_append_own_at (P := P) w base t o.type e i z size bytes ht hi hz hsize hby hzs hsz v n xs hown ad m c news hl hnews h1 h63 hbytes hbase
    unfold Oper.wp execOp
    simp only [ho, resolve, invoke, builtin, Sem.run_bind, Sem.run_pure, Result.andThen_ok, List.map_toArray, List.map_cons, List.map_nil, hs, hx, hr]
    show K (a.put o.dst v') w'
    rw [hput]
    exact h v' w' h2 h3 h5

/-! ### One element laid in a block of its own -/
theorem run_buildSlice_one {P : Program} (w : World) (t e : TypeId) (size : Nat) (z : Value) (cs : Array Value) (ht : P.underlying t = some (.slice e)) (hi : (P.info? e).map (fun i => (i.zero, i.size)) = some (some z, size))
    (hf : Instr.fill (fun i => some (i * size, size)) ((Array.range (1 * size)).map (z.cells[· % z.cells.size]!)) [(0, .agg cs)] = some cs) (hpos : size ≠ 0) (hle : size ≤ 16777216) :
    (Instr.buildSlice t 1 #[(0, .agg cs)]).run P w = .ok (.slice (some ⟨w.heap.size, 0, none⟩) 1 1) (w.alloc (.cells cs e)) := by
  obtain ⟨hz, hs⟩ := zero_of_info hi
  have hs' := fun w => sizeOf_run hs w
  rw [Nat.one_mul] at hf
  simp [Instr.buildSlice, run_underlying ht, hs', hz, hpos, hf]
  rw [if_neg (by omega)]
  simp [newRow, newObj]
  rfl

/-! ### What each step of the list does -/
theorem own_ne {w : World} {base e size n bl : Nat} {v : Value} {x : List Value} (h : w.ownsRow base e size v n x) (hb : bl < base) : some bl ≠ v.ownBlock := by
  intro e'
  have := (h.lt bl e'.symm).1
  omega
theorem apart_new {w : World} {base e size n : Nat} {v v' u : Value} {x : List Value} (hu : w.ownsRow base e size u n x) (hat : v'.ownBlock = v.ownBlock ∨ v'.ownBlock = some w.heap.size) (h : v.ownBlock = none ∨ u.ownBlock = none ∨ v.ownBlock ≠ u.ownBlock) : v'.ownBlock = none ∨ u.ownBlock = none ∨ v'.ownBlock ≠ u.ownBlock := by
  rcases hat with e | e
  · rw [e]; exact h
  · right
    cases hu' : u.ownBlock with
    | none => exact Or.inl rfl
    | some k =>
      right
      rw [e]
      have := (hu.lt k hu').2
      simp only [ne_eq, Option.some.injEq]
      omega
theorem bl_cells {w w2 : World} {bl base : Nat} {cs : Array Value} {v v' : Value} {e size n : Nat} {x : List Value} (i : Nat) (h : w.heap[bl]? = some (.cells cs 48 (0, 0))) (hv : w.ownsRow base e size v n x) (hlt : bl < base) (hg : w.grownBy w2 v.ownBlock) :
    (w2.setCell ⟨bl, i, none⟩ v').heap[bl]? = some (.cells (cs.setIfInBounds i v') 48 (0, 0)) :=
  heap_setCell_same w2 bl i cs 48 v' ((hg.block bl (Array.getElem?_eq_some_iff.1 h).1 (own_ne hv hlt)).trans h)
theorem apart_symm {a b : Option Nat} (h : a = none ∨ b = none ∨ a ≠ b) : b = none ∨ b ≠ a := by
  rcases h with e | e | e
  · cases b with
    | none => exact Or.inl rfl
    | some k => right; rw [e]; simp
  · exact Or.inl e
  · exact Or.inr (Ne.symm e)
theorem apart_left {a b : Option Nat} (h : a = none ∨ b = none ∨ a ≠ b) : a = none ∨ a ≠ b := by
  rcases h with e | e | e
  · exact Or.inl e
  · cases a with
    | none => exact Or.inl rfl
    | some k => right; rw [e]; simp
  · exact Or.inr e
theorem apart_swap {a b : Option Nat} (h : a = none ∨ b = none ∨ a ≠ b) : b = none ∨ a = none ∨ b ≠ a := by
  rcases h with e | e | e
  · exact Or.inr (Or.inl e)
  · exact Or.inl e
  · exact Or.inr (Or.inr (Ne.symm e))
section
variable {bl base : Nat} {w w2 : World} {v0 v1 v2 v3 : Value} {n0 n1 n2 n3 m : Nat} {x0 x1 x2 x3 y : List Value} {v' : Value}
theorem LIs.step0 (h : LIs bl base w v0 v1 v2 v3 n0 n1 n2 n3 x0 x1 x2 x3) (ho : w2.ownsRow base 25 33 v' m y) (hg : w.grownBy w2 v0.ownBlock) (hat : v'.ownBlock = v0.ownBlock ∨ v'.ownBlock = some w.heap.size) :
    LIs bl base (w2.setCell ⟨bl, 0, none⟩ v') v' v1 v2 v3 m n1 n2 n3 y x1 x2 x3 where
  cells := bl_cells 0 h.cells h.o0 h.lt hg
  o0 := ownsRow_setCell_below ho h.lt _
  o1 := ownsRow_setCell_below (h.o1.kept hg (owns_apart h.o1 h.o0 (by decide))) h.lt _
  o2 := ownsRow_setCell_below (h.o2.kept hg (apart_symm h.apart)) h.lt _
  o3 := ownsRow_setCell_below (h.o3.kept hg (owns_apart h.o3 h.o0 (by decide))) h.lt _
  apart := apart_new h.o2 hat h.apart
  lt := h.lt
  base := by have := hg.size; have := h.base; simp [World.setCell]; omega
theorem LIs.step1 (h : LIs bl base w v0 v1 v2 v3 n0 n1 n2 n3 x0 x1 x2 x3) (ho : w2.ownsRow base 88 37 v' m y) (hg : w.grownBy w2 v1.ownBlock) :
    LIs bl base (w2.setCell ⟨bl, 1, none⟩ v') v0 v' v2 v3 n0 m n2 n3 x0 y x2 x3 where
  cells := bl_cells 1 h.cells h.o1 h.lt hg
  o0 := ownsRow_setCell_below (h.o0.kept hg (owns_apart h.o0 h.o1 (by decide))) h.lt _
  o1 := ownsRow_setCell_below ho h.lt _
  o2 := ownsRow_setCell_below (h.o2.kept hg (owns_apart h.o2 h.o1 (by decide))) h.lt _
  o3 := ownsRow_setCell_below (h.o3.kept hg (owns_apart h.o3 h.o1 (by decide))) h.lt _
  apart := h.apart
  lt := h.lt
  base := by have := hg.size; have := h.base; simp [World.setCell]; omega
theorem LIs.step2 (h : LIs bl base w v0 v1 v2 v3 n0 n1 n2 n3 x0 x1 x2 x3) (ho : w2.ownsRow base 25 33 v' m y) (hg : w.grownBy w2 v2.ownBlock) (hat : v'.ownBlock = v2.ownBlock ∨ v'.ownBlock = some w.heap.size) :
    LIs bl base (w2.setCell ⟨bl, 2, none⟩ v') v0 v1 v' v3 n0 n1 m n3 x0 x1 y x3 where
  cells := bl_cells 2 h.cells h.o2 h.lt hg
  o0 := ownsRow_setCell_below (h.o0.kept hg (apart_left h.apart)) h.lt _
  o1 := ownsRow_setCell_below (h.o1.kept hg (owns_apart h.o1 h.o2 (by decide))) h.lt _
  o2 := ownsRow_setCell_below ho h.lt _
  o3 := ownsRow_setCell_below (h.o3.kept hg (owns_apart h.o3 h.o2 (by decide))) h.lt _
  apart := apart_swap (apart_new h.o0 hat (apart_swap h.apart))
  lt := h.lt
  base := by have := hg.size; have := h.base; simp [World.setCell]; omega
theorem LIs.step3 (h : LIs bl base w v0 v1 v2 v3 n0 n1 n2 n3 x0 x1 x2 x3) (ho : w2.ownsRow base 90 2 v' m y) (hg : w.grownBy w2 v3.ownBlock) :
    LIs bl base (w2.setCell ⟨bl, 3, none⟩ v') v0 v1 v2 v' n0 n1 n2 m x0 x1 x2 y where
  cells := bl_cells 3 h.cells h.o3 h.lt hg
  o0 := ownsRow_setCell_below (h.o0.kept hg (owns_apart h.o0 h.o3 (by decide))) h.lt _
  o1 := ownsRow_setCell_below (h.o1.kept hg (owns_apart h.o1 h.o3 (by decide))) h.lt _
  o2 := ownsRow_setCell_below (h.o2.kept hg (owns_apart h.o2 h.o3 (by decide))) h.lt _
  o3 := ownsRow_setCell_below ho h.lt _
  apart := h.apart
  lt := h.lt
  base := by have := hg.size; have := h.base; simp [World.setCell]; omega
/-- What leaves all old blocks alone leaves the list. -/
theorem LIs.grown (h : LIs bl base w v0 v1 v2 v3 n0 n1 n2 n3 x0 x1 x2 x3) (hb : Below w.heap.size w w2) : LIs bl base w2 v0 v1 v2 v3 n0 n1 n2 n3 x0 x1 x2 x3 :=
  have hg : w.grownBy w2 none := ⟨hb.os, hb.tape, hb.output, hb.size, fun k hk _ => hb.block k hk⟩
  have hne : ∀ o : Option Nat, o = none ∨ o ≠ none := fun o => by cases o <;> simp
  { cells := (hb.block bl (by have := h.lt; have := h.base; omega)).trans h.cells
    o0 := h.o0.kept hg (hne _), o1 := h.o1.kept hg (hne _), o2 := h.o2.kept hg (hne _), o3 := h.o3.kept hg (hne _), apart := h.apart, lt := h.lt, base := Nat.le_trans h.base hb.size }
theorem LIs.drew (h : LIs bl base w v0 v1 v2 v3 n0 n1 n2 n3 x0 x1 x2 x3) : LIs bl base w.drew v0 v1 v2 v3 n0 n1 n2 n3 x0 x1 x2 x3 := h.grown (Below.refl _ _).drew
/-- The list's steps leave all below its head alone. -/
theorem below_step {w0 : World} {e size n i : Nat} {u u' : Value} {x : List Value} (h : w.ownsRow base e size u n x) (hlt : bl < base) (hw : Below bl w0 w) (hs : bl ≤ w.heap.size) (hg : w.grownBy w2 u.ownBlock) : Below bl w0 (w2.setCell ⟨bl, i, none⟩ u') :=
  Below.setCell (hw.trans ⟨hg.os, hg.tape, hg.output, hg.size, fun k hk => hg.block k (by omega) (fun e => by have := (h.lt k e.symm).1; omega)⟩) (Nat.le_refl _) _
end
end Go.Proofs.Qxb6604526a
