/-
  Commits in memory: what a slice of IDs and a slice of commits hold; zzID, zzIDOK, zzCommitOK, zzCommitsOK, zzCommitBytes, walked.
-/
import Derived.Test.Qxb6604526aIds
import Derived.Test.Qxb6604526aOrder
namespace Go.Proofs.Qxb6604526a
open Go.RowKit

/-- A commit as plain data: an ID, a tree, np parents, a time. -/
structure Com where
  id : Nat → Int
  tree : Nat → Int
  np : Nat
  p : Nat → Nat → Int
  time : Int

/-- The 68 cells of a commit; pv: the value of its parents. -/
def comL (c : Com) (pv : Value) : List Value := rowL 33 c.id ++ (rowL 33 c.tree ++ [pv, .int .u64 c.time])
theorem comL_length (c : Com) (pv : Value) : (comL c pv).length = 68 := by simp [comL, rowL_length]

/-- The slice value v holds the np IDs p, in a block that meets R. -/
def IdsIn (R : Nat → Prop) (w : World) (v : Value) (np : Nat) (p : Nat → Nat → Int) : Prop :=
  ∃ ao cap, v = .slice ao np cap ∧ (ao = none → np = 0 ∧ cap = 0) ∧
    (0 < np → ∃ b off, ao = some ⟨b, off, none⟩ ∧ R b ∧ ∀ j, j < np → w.rangeAt b (off + j * 33) (rowL 33 (p j)))
/-- The slice value v holds the n commits c, all in blocks that meet R. -/
def ComsIn (R : Nat → Prop) (w : World) (v : Value) (n : Nat) (c : Nat → Com) : Prop :=
  ∃ ao cap, v = .slice ao n cap ∧ (ao = none → n = 0 ∧ cap = 0) ∧
    (0 < n → ∃ b off, ao = some ⟨b, off, none⟩ ∧ R b ∧ ∀ i, i < n → ∃ pv, w.rangeAt b (off + i * 68) (comL (c i) pv) ∧ IdsIn R w pv (c i).np (c i).p)

theorem rangeAt_below {B b o : Nat} {w w' : World} {l : List Value} (h : w.rangeAt b o l) (hb : Below B w w') (hB : b < B) : w'.rangeAt b o l := fun j v hv => (hb.cell (p := ⟨b, o + j, none⟩) hB).trans (h j v hv)
theorem IdsIn.below {R : Nat → Prop} {B : Nat} {w w' : World} {v : Value} {np : Nat} {p : Nat → Nat → Int} (h : IdsIn R w v np p) (hb : Below B w w') (hB : ∀ b, R b → b < B) : IdsIn R w' v np p := by
  obtain ⟨ao, cap, h1, h2, h3⟩ := h
  refine ⟨ao, cap, h1, h2, fun h0 => ?_⟩
  obtain ⟨b, off, e, hlt, hr⟩ := h3 h0
  exact ⟨b, off, e, hlt, fun j hj => rangeAt_below (hr j hj) hb (hB b hlt)⟩
theorem IdsIn.mono {R R' : Nat → Prop} {w : World} {v : Value} {np : Nat} {p : Nat → Nat → Int} (h : IdsIn R w v np p) (hR : ∀ b, R b → R' b) : IdsIn R' w v np p := by
  obtain ⟨ao, cap, h1, h2, h3⟩ := h
  refine ⟨ao, cap, h1, h2, fun h0 => ?_⟩
  obtain ⟨b, off, e, hlt, hr⟩ := h3 h0
  exact ⟨b, off, e, hR b hlt, hr⟩
theorem ComsIn.below {R : Nat → Prop} {B : Nat} {w w' : World} {v : Value} {n : Nat} {c : Nat → Com} (h : ComsIn R w v n c) (hb : Below B w w') (hB : ∀ b, R b → b < B) : ComsIn R w' v n c := by
  obtain ⟨ao, cap, h1, h2, h3⟩ := h
  refine ⟨ao, cap, h1, h2, fun h0 => ?_⟩
  obtain ⟨b, off, e, hlt, hr⟩ := h3 h0
  refine ⟨b, off, e, hlt, fun i hi => ?_⟩
  obtain ⟨pv, q1, q2⟩ := hr i hi
  exact ⟨pv, rangeAt_below q1 hb (hB b hlt), q2.below hb hB⟩
/-- The cells of one commit: its ID, its tree, its parents' value, its time. -/
theorem com_id {w : World} {b o : Nat} {c : Com} {pv : Value} (h : w.rangeAt b o (comL c pv)) : w.rangeAt b o (rowL 33 c.id) := fun j v hv =>
  h j v (by unfold comL; rw [List.getElem?_append_left (List.getElem?_eq_some_iff.1 hv).1]; exact hv)
theorem com_tree {w : World} {b o : Nat} {c : Com} {pv : Value} (h : w.rangeAt b o (comL c pv)) : w.rangeAt b (o + 33) (rowL 33 c.tree) := fun j v hv => by
  have hj : j < 33 := by simpa [rowL_length] using (List.getElem?_eq_some_iff.1 hv).1
  have := h (33 + j) v (by
    unfold comL
    rw [List.getElem?_append_right (by rw [rowL_length]; omega), rowL_length, show 33 + j - 33 = j by omega, List.getElem?_append_left (by rw [rowL_length]; exact hj)]
    exact hv)
  rwa [show o + (33 + j) = o + 33 + j by omega] at this
theorem com_pv {w : World} {b o : Nat} {c : Com} {pv : Value} (h : w.rangeAt b o (comL c pv)) : w.cell? ⟨b, o + 66, none⟩ = some pv :=
  h 66 pv (by unfold comL; rw [List.getElem?_append_right (by rw [rowL_length]; omega), rowL_length, List.getElem?_append_right (by rw [rowL_length]; omega), rowL_length]; rfl)
theorem com_time {w : World} {b o : Nat} {c : Com} {pv : Value} (h : w.rangeAt b o (comL c pv)) : w.cell? ⟨b, o + 67, none⟩ = some (.int .u64 c.time) :=
  h 67 _ (by unfold comL; rw [List.getElem?_append_right (by rw [rowL_length]; omega), rowL_length, List.getElem?_append_right (by rw [rowL_length]; omega), rowL_length]; rfl)
theorem rangeAt_row {w : World} {b o n : Nat} {x : Nat → Int} (h : w.rangeAt b o (rowL n x)) (k : Nat) (hk : k < n) : w.cell? ⟨b, o + k, none⟩ = some (.int .u8 (x k)) := h k _ (by simp [rowL, hk])
theorem rangeAt_rowLess {w : World} {b o n m : Nat} {x : Nat → Int} (h : w.rangeAt b o (rowL n x)) (hm : m ≤ n) : w.rangeAt b o (rowL m x) := fun j v hv => by
  have hj : j < m := by simpa [rowL_length] using (List.getElem?_eq_some_iff.1 hv).1
  refine h j v ?_
  simp [rowL, hj] at hv
  simp [rowL, show j < n by omega, hv]
theorem rangeAt_block {w : World} {b n : Nat} {x : Nat → Int} {t : TypeId} (h : w.heap[b]? = some (.cells (row n x) t (0, 0))) : w.rangeAt b 0 (rowL n x) := fun j v hv => by
  rw [Nat.zero_add, cell_of_row w b j _ _ _ h]
  simpa [row] using hv

/-! ### A whole array or struct loaded out of the middle of a block, under a guard that says yes -/
theorem wpList_load_midG {P : Program} {ops : Array Oper} {rest : List Oper} {op : Oper} {a : Act} {w : World} {Q : Exit → Act → World → Prop} (hw : Region.wanted op (yielded ops a.tmps) = true) (ty : TypeId) (x : Operand) (ho : op.op = .load ty x)
    (b o : Nat) (hx : a.eval x = .pointer (some ⟨b, o, none⟩)) (cs : List Value) (d : TypeDesc) (hc : w.rangeAt b o cs)
    (hu : P.underlying ty = some d) (hd : d.isRow = true) (hi : (P.info? ty).map (·.size) = some cs.length)
    (h : wpList P ops Q rest (a.put op.dst (.agg cs.toArray)) w) : wpList P ops Q (op :: rest) a w :=
  BigFrame.wpList_want hw fun _ hK => wp_load_mid ty x ho b o hx cs d hc hu hd hi (hK _ _ h)
theorem Try.sizeL22 (z : Nat → Int) : (Try.prog.info? 22).map (·.size) = some (rowL 32 z).length := by rw [rowL_length]; kernel_rfl
theorem Try.sizeL25 (z : Nat → Int) : (Try.prog.info? 25).map (·.size) = some (rowL 33 z).length := by rw [rowL_length]; kernel_rfl
theorem Try.sizeL53 (z : Nat → Int) : (Try.prog.info? 53).map (·.size) = some (rowL 33 z).length := by rw [rowL_length]; kernel_rfl
theorem Try.sizeL57 (c : Com) (pv : Value) : (Try.prog.info? 57).map (·.size) = some (comL c pv).length := by rw [comL_length]; kernel_rfl

theorem two_below (w : World) (A B : Obj) : Below w.heap.size w ((w.alloc A).alloc B) := ((Below.refl _ _).alloc (Nat.le_refl _) _).alloc (by simp) _
theorem idOf_self (x : Nat → Int) : row 33 (idOf x (x 32)) = row 33 x := row_congr fun i hi => by
  unfold idOf
  by_cases h : i < 32
  · rw [if_pos h]
  · rw [if_neg h, show i = 32 by omega]

set_option maxRecDepth 10000 in
set_option maxHeartbeats 400000 in
/-- zzID. -/
theorem id_any (x : Nat → Int) (w : World) :
    Calls Try.prog 25 #[.agg (row 33 x)] w fun e w' => e = .returned (.agg (row 33 x)) ∧ Below w.heap.size w w' := by
  have hr := rangeAt_rowLess (rangeAt_block (heap_alloc2_old w (.cells (row 33 x) 53) (.cells (row 33 fun _ => 0) 25))) (show 32 ≤ 33 by omega)
  have hc := row_get 33 x 32 (by omega)
  go_enter Try.func25, Try.ntmps25
  go_wp2_with (first
    | (refine wpList_load_midG (by rfl) 22 _ rfl _ _ rfl _ _ hr Try.underlying22 rfl (Try.sizeL22 _) ?_)
    | fail)
  refine (zzid_any x (x 32) _).mono ?_
  rintro e w1 ⟨rfl, hb⟩
  rw [idOf_self]
  have h1 : w1.heap[w.heap.size + 1]? = some (.cells (row 33 fun _ => 0) 25 (0, 0)) := (hb.block _ (by simp)).trans (heap_alloc2_new w _ _)
  have l1 : Below w.heap.size w w1 := (two_below w _ _).trans (hb.mono (by simp; omega))
  clear hr hc hb
  go_wp2_with (refine wpList_store_row rfl 25 _ _ rfl _ (row 33 x) rfl rfl 25 _ h1 (Try.size25 _) (by rw [row_size, row_size]) (row_one _ _) ?_)
  exact bodyPost_ret (v := .agg (row 33 x)) (results_cell_row Try.results25 _ _ (w.heap.size + 1) 25 _ (0, 0) _ rfl (setRow_heap w1 _ _ _ _ _ h1) Try.underlying25 rfl (Try.size25 _)) rfl ⟨rfl, l1.trans ⟨rfl, rfl, rfl, by simp, fun k hk => setRow_other w1 _ k _ (by omega)⟩⟩

/-- The call returns a bool. -/
def RetBool (e : Ending) : Prop := ∃ b, e = .returned (.bool b)
theorem RetBool.mk (b : Bool) : RetBool (.returned (.bool b)) := ⟨b, rfl⟩

set_option maxRecDepth 10000 in
set_option maxHeartbeats 400000 in
/-- zzIDOK. -/
theorem idOK_any (x : Nat → Int) (w : World) (h0 : 0 ≤ x 32) (h1 : x 32 < 256) :
    Calls Try.prog 29 #[.agg (row 33 x)] w fun e w' => RetBool e ∧ Below w.heap.size w w' := by
  have hr := rangeAt_rowLess (rangeAt_block (heap_alloc_new w (.cells (row 33 x) 53))) (show 32 ≤ 33 by omega)
  have hc := row_get 33 x 32 (by omega)
  by_cases hle : x 32 ≤ 32
  · obtain ⟨n, hn⟩ := Int.eq_ofNat_of_zero_le h0
    have HT : Hid (∀ W, Calls Try.prog 8 #[.agg (row 32 x), .int .u8 (x 32)] W fun e w' => e = .returned (.bool (tailZ x n)) ∧ Below W.heap.size W w') := fun W => by
      rw [hn]; exact tail_any x n W (by omega)
    clear hn
    go_enter Try.func29, Try.ntmps29
    go_wp2_with (first
      | (refine wpList_load_midG (by rfl) 22 _ rfl _ _ rfl _ _ hr Try.underlying22 rfl (Try.sizeL22 _) ?_)
      | fail)
    refine Calls.mono (HT.out _) ?_
    rintro e w1 ⟨rfl, hb⟩
    go_wp2
    go_ret
    exact ⟨RetBool.mk _, ((Below.refl _ _).alloc (Nat.le_refl _) _).trans (hb.mono (by simp))⟩
  · go_enter Try.func29, Try.ntmps29
    go_wp2
    go_ret
    exact ⟨RetBool.mk _, ((Below.refl _ _).alloc (Nat.le_refl _) _)⟩

/-- The counts of an ID's bytes that a walk asks for. -/
def IdOk (x : Nat → Int) : Prop := 0 ≤ x 32 ∧ x 32 < 256
theorem comBlock {w : World} {c : Com} {pv : Value} {b : Nat} {t : TypeId} (h : w.heap[b]? = some (.cells (comL c pv).toArray t (0, 0))) : w.rangeAt b 0 (comL c pv) := fun j v hv => by
  rw [Nat.zero_add, cell_of_row w b j _ _ _ h]
  simpa using hv
theorem comGet (c : Com) (pv : Value) : (comL c pv).toArray[66]? = some pv ∧ (comL c pv).toArray[67]? = some (.int .u64 c.time) := by
  unfold comL
  constructor
  · rw [List.getElem?_toArray, List.getElem?_append_right (by rw [rowL_length]; omega), rowL_length, List.getElem?_append_right (by rw [rowL_length]; omega), rowL_length]; rfl
  · rw [List.getElem?_toArray, List.getElem?_append_right (by rw [rowL_length]; omega), rowL_length, List.getElem?_append_right (by rw [rowL_length]; omega), rowL_length]; rfl

set_option maxRecDepth 10000 in
set_option maxHeartbeats 1000000 in
/-- zzCommitOK. -/
theorem comOK_any (c : Com) (pv : Value) (w : World) (hp : IdsIn (· < w.heap.size) w pv c.np c.p) (hn : c.np ≤ 9223372036854775807) (o1 : IdOk c.id) (o2 : IdOk c.tree) (o3 : ∀ j, j < c.np → IdOk (c.p j)) :
    Calls Try.prog 35 #[.agg (comL c pv).toArray] w fun e w' => RetBool e ∧ Below w.heap.size w w' := by
  obtain ⟨ao, cap, rfl, hnil, hids⟩ := hp
  have g0 := heap_alloc_new w (.cells (comL c (.slice ao c.np cap)).toArray 57)
  have l0 : Below w.heap.size w (w.alloc (.cells (comL c (.slice ao c.np cap)).toArray 57)) := (Below.refl _ _).alloc (Nat.le_refl _) _
  have y0 : w.heap.size < (w.alloc (.cells (comL c (.slice ao c.np cap)).toArray 57)).heap.size := by simp
  go_enter Try.func35, Try.ntmps35
  have hr1 := com_id (comBlock g0)
  go_wp2_with (first | (refine wpList_load_midG (by rfl) 53 _ rfl _ _ rfl _ _ hr1 Try.underlying53 rfl (Try.sizeL53 _) ?_) | fail)
  generalize w.alloc (.cells (comL c (.slice ao c.np cap)).toArray 57) = w0 at *
  refine (idOK_any c.id _ o1.1 o1.2).mono ?_
  rintro e w1 ⟨⟨b1, rfl⟩, hb⟩
  replace g0 := (hb.block _ (by omega)).trans g0
  replace l0 := l0.trans (hb.mono (by omega))
  replace y0 := Nat.lt_of_lt_of_le y0 hb.size
  clear hr1 hb
  cases b1
  · go_wp2
    go_ret
    exact ⟨RetBool.mk _, l0⟩
  · have hr2 := com_tree (comBlock g0)
    go_wp2_with (first | (refine wpList_load_midG (by rfl) 53 _ rfl _ _ rfl _ _ hr2 Try.underlying53 rfl (Try.sizeL53 _) ?_) | fail)
    refine (idOK_any c.tree _ o2.1 o2.2).mono ?_
    rintro e w2 ⟨⟨b2, rfl⟩, hb⟩
    replace g0 := (hb.block _ (by omega)).trans g0
    replace l0 := l0.trans (hb.mono (by omega))
    replace y0 := Nat.lt_of_lt_of_le y0 hb.size
    clear hr2 hb
    cases b2
    · go_wp2
      go_ret
      exact ⟨RetBool.mk _, l0⟩
    · go_wp2
      go_loopw [3] (fun i wr => ∃ k : Nat, k ≤ c.np ∧ i = .int .i64 k ∧ wr.heap[w.heap.size]? = some (.cells (comL c (.slice ao c.np cap)).toArray 57 (0, 0)) ∧ Below w.heap.size w wr ∧ w.heap.size < wr.heap.size) (fun i _ => c.np - (intOf i).toNat)
      case atStart => exact ⟨0, by omega, rfl, g0, l0, y0⟩
      case round =>
        obtain ⟨k, hk, rfl, f0, m0, z0⟩ := hrel
        have hpv := (cell_of_row wr w.heap.size 66 _ _ _ f0).trans (comGet c (.slice ao c.np cap)).1
        clear g0 l0 y0
        by_cases hlt : k < c.np
        · obtain ⟨b, off, rfl, hbB, hrow⟩ := hids (by omega)
          have hrk := rangeAt_below (hrow k hlt) m0 hbB
          clear hids hrow
          go_wp2_with (first | (refine wpList_load_midG (by rfl) 53 _ rfl _ _ rfl _ _ hrk Try.underlying53 rfl (Try.sizeL53 _) ?_) | fail)
          refine (idOK_any (c.p k) _ (o3 k hlt).1 (o3 k hlt).2).mono ?_
          rintro e w3 ⟨⟨b3, rfl⟩, hb⟩
          replace f0 := (hb.block _ (by omega)).trans f0
          replace m0 := m0.trans (hb.mono (by omega))
          replace z0 := Nat.lt_of_lt_of_le z0 hb.size
          clear hb hrk hpv
          cases b3
          · go_wp2
            go_ret
            exact ⟨RetBool.mk _, m0⟩
          · go_wp2
            go_roundw
            case rel => exact ⟨k + 1, by omega, by go_num, f0, m0, z0⟩
            case measure => simp [intOf]; omega
        · go_wp2
          go_ret
          exact ⟨RetBool.mk _, m0⟩

set_option maxRecDepth 10000 in
set_option maxHeartbeats 1000000 in
/-- zzCommitsOK. -/
theorem comsOK_any (v : Value) (n : Nat) (c : Nat → Com) (w : World) (hv : ComsIn (· < w.heap.size) w v n c) (hn : n ≤ 9223372036854775807)
    (hok : ∀ i, i < n → (c i).np ≤ 9223372036854775807 ∧ IdOk (c i).id ∧ IdOk (c i).tree ∧ ∀ j, j < (c i).np → IdOk ((c i).p j)) :
    Calls Try.prog 22 #[v] w fun e w' => RetBool e ∧ Below w.heap.size w w' := by
  obtain ⟨ao, cap, rfl, hnil, hcs⟩ := hv
  go_enter Try.func22, Try.ntmps22
  go_wp2
  go_loopw [3] (fun i wr => ∃ k : Nat, k ≤ n ∧ i = .int .i64 k ∧ Below w.heap.size w wr) (fun i _ => n - (intOf i).toNat)
  case atStart => exact ⟨0, by omega, rfl, Below.refl _ _⟩
  case round =>
    obtain ⟨k, hk, rfl, m0⟩ := hrel
    by_cases hlt : k < n
    · obtain ⟨b, off, rfl, hbB, hrow⟩ := hcs (by omega)
      obtain ⟨pv, hr, hp⟩ := hrow k hlt
      obtain ⟨q1, q2, q3, q4⟩ := hok k hlt
      have hrk := rangeAt_below hr m0 hbB
      have hpk : IdsIn (· < wr.heap.size) wr pv (c k).np (c k).p := (hp.below m0 (fun _ h => h)).mono (fun _ h => Nat.lt_of_lt_of_le h m0.size)
      clear hcs hrow hr hp hok
      go_wp2_with (first | (refine wpList_load_midG (by rfl) 57 _ rfl _ _ rfl _ _ hrk Try.underlying57 rfl (Try.sizeL57 _ _) ?_) | fail)
      refine (comOK_any (c k) pv _ hpk q1 q2 q3 q4).mono ?_
      rintro e w3 ⟨⟨b3, rfl⟩, hb⟩
      replace m0 := m0.trans (hb.mono m0.size)
      clear hb hrk hpk
      cases b3
      · go_wp2
        go_ret
        exact ⟨RetBool.mk _, m0⟩
      · go_wp2
        go_roundw
        case rel => exact ⟨k + 1, by omega, by go_num, m0⟩
        case measure => simp [intOf]; omega
    · go_wp2
      go_ret
      exact ⟨RetBool.mk _, m0⟩
end Go.Proofs.Qxb6604526a
