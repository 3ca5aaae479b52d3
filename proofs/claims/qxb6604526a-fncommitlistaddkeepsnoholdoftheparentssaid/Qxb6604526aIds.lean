/-
  zzTailZero, ZZID, bytes.Compare, compareIDs, ZZCompareIDs, walked.
-/
import Derived.Test.Qxb6604526aCells
import Derived.Lib.Bytealg
import Derived.Lib.BytesEntry
import Derived.Deep.RegionWith
namespace Go.Proofs.Qxb6604526a
open Go.RowKit

theorem built25 (z : Nat → Int) (n : Int) : Try.prog.built 25 [(0, .agg (row 32 z)), (1, .int .u8 n)] = some (row 33 (idOf z n)) := by kernel_rfl
theorem wpList_build_to {P : Program} {ops : Array Oper} {rest : List Oper} {o : Oper} {a : Act} {w : World} {Q : Exit → Act → World → Prop} (hg : o.guard = none) (t : TypeId) (parts : Array (Nat × Operand)) (ho : o.op = .build t parts)
    (cs : Array Value) (hf : P.built t (parts.map fun (i, x) => (i, a.eval x)).toList = some cs)
    (h : wpList P ops Q rest (a.put o.dst (.agg cs)) w) : wpList P ops Q (o :: rest) a w :=
  wpList_build hg t parts ho (by rw [hf]; rfl) (by rw [hf]; exact h)

set_option maxRecDepth 10000 in
set_option maxHeartbeats 400000 in
/-- ZZID. -/
theorem zzid_any (z : Nat → Int) (n : Int) (w : World) :
    Calls Try.prog 9 #[.agg (row 32 z), .int .u8 n] w fun e w' => e = .returned (.agg (row 33 (idOf z n))) ∧ Below w.heap.size w w' := by
  go_enter Try.func9, Try.ntmps9
  go_wp2_with (first
    | (refine wpList_load_row rfl 22 _ rfl _ rfl 22 _ (0, 0) _ (heap_alloc2_old w _ _) Try.underlying22 rfl (Try.size22 _) ?_)
    | (refine wpList_build_to rfl 25 _ rfl (row 33 (idOf z n)) ?_ ?_; · (simp [Act.eval]; exact built25 z n))
    | (refine wpList_store_row rfl 25 _ _ rfl _ (row 33 (idOf z n)) rfl rfl 25 _ (heap_alloc2_new w _ _) (Try.size25 _) (by rw [row_size]; rfl) (row_one _ _) ?_; rw [setRow2_new]))
  exact bodyPost_ret (v := .agg (row 33 (idOf z n))) (results_cell_row Try.results9 _ _ (w.heap.size + 1) 25 _ (0, 0) _ rfl (heap_alloc2_new w _ _) Try.underlying25 rfl (Try.size25 _)) rfl ⟨rfl, ((Below.refl _ _).alloc (Nat.le_refl _) _).alloc (by simp) _⟩

/-- The bytes behind the first n are zero. -/
def tailZ (z : Nat → Int) (n : Nat) : Bool := (List.range 32).all fun i => decide (i < n) || z i == 0

theorem tailZ_false {z : Nat → Int} {n k : Nat} (h1 : n ≤ k) (h2 : k < 32) (h3 : (z k != 0) = true) : tailZ z n = false := by
  unfold tailZ
  rw [List.all_eq_false]
  refine ⟨k, by simpa using h2, ?_⟩
  simp at h3
  simp [h3]
  omega
theorem tailZ_true {z : Nat → Int} {n k : Nat} (h2 : 32 ≤ k) (h : ∀ j, n ≤ j → j < k → z j = 0) : tailZ z n = true := by
  unfold tailZ
  rw [List.all_eq_true]
  intro i hi
  have hi' : i < 32 := by simpa using hi
  by_cases hn : i < n
  · simp [hn]
  · simp [h i (by omega) (by omega)]
theorem ret_bool {a b : Bool} (h : a = b) : Ending.returned (.bool a) = .returned (.bool b) := by rw [h]

set_option maxHeartbeats 400000 in
/-- zzTailZero. -/
theorem tail_any (z : Nat → Int) (n : Nat) (w : World) (hn : n < 256) :
    Calls Try.prog 8 #[.agg (row 32 z), .int .u8 n] w fun e w' => e = .returned (.bool (tailZ z n)) ∧ Below w.heap.size w w' := by
  have hcell : ∀ k, k < 32 → (w.alloc (.cells (row 32 z) 22)).cell? ⟨w.heap.size, k, none⟩ = some (.int .u8 (z k)) := fun k hk => by
    rw [cell_of_row _ w.heap.size k _ _ _ (heap_alloc_new w _)]; exact row_get 32 z k hk
  have HC : Hid (∀ k, k < 32 → (w.alloc (.cells (row 32 z) 22)).cell? ⟨w.heap.size, k, none⟩ = some (.int .u8 (z k))) := hcell
  clear hcell
  go_enter Try.func8, Try.ntmps8
  go_wp2
  go_loop [5] (fun i => ∃ k : Nat, n ≤ k ∧ i = .int .i64 k ∧ ∀ j, n ≤ j → j < k → z j = 0) (fun i => 32 - (intOf i).toNat)
  case atStart => exact ⟨n, by omega, rfl, fun j h1 h2 => by omega⟩
  case round =>
    obtain ⟨k, hk, rfl, hz⟩ := hrel
    have HZ : Hid (∀ j, n ≤ j → j < k → z j = 0) := hz
    clear hz
    by_cases hlt : k < 32
    · have hc := HC.out k hlt
      go_wp2
      · go_ret
        exact ⟨ret_bool (tailZ_false hk hlt ‹_›).symm, (Below.refl _ _).alloc (Nat.le_refl _) _⟩
      · have hz0 : (z k != 0) = false := by assumption
        go_round
        case rel =>
          refine ⟨k + 1, by omega, by go_num, fun j h1 h2 => ?_⟩
          by_cases e : j = k
          · subst e; simpa using hz0
          · exact HZ.out j h1 (by omega)
        case measure => simp [intOf]; omega
    · go_wp2
      go_ret
      exact ⟨ret_bool (tailZ_true (by omega) HZ.out).symm, (Below.refl _ _).alloc (Nat.le_refl _) _⟩

/-- The order of two IDs: that of their 32 bytes. -/
def cmpZ (x y : Nat → Int) : Int := Lib.compareBytes (Lib.bytesOf ((List.range 32).map x)) (Lib.bytesOf ((List.range 32).map y))
theorem run_loadRow {P : Program} (w : World) (b : Nat) (x : Nat → Int) (hx : ∀ k, k < 32 → w.cell? ⟨b, k, none⟩ = some (.int .u8 (x k))) :
    (Extern.Bytes.bytesOf (.slice (some ⟨b, 0, none⟩) 32 32)).run P w = .ok ⟨(Lib.bytesOf ((List.range 32).map x)).toArray⟩ w := by
  have hl := Lib.run_loadBytesX (P := P) w ((List.range 32).map x) ⟨b, 0, none⟩ .empty (fun j v hj => by
    have hjl : j < 32 := by simpa using (List.getElem?_eq_some_iff.1 hj).1
    have e : (⟨b, 0, none⟩ : Addr).add j = ⟨b, j, none⟩ := by unfold Addr.add; split <;> simp_all
    rw [e, hx j hjl]
    simp [hjl] at hj
    rw [hj])
  rw [List.length_map, List.length_range] at hl
  have he : (⟨ByteArray.empty.data ++ (Lib.bytesOf ((List.range 32).map x)).toArray⟩ : ByteArray) = ⟨(Lib.bytesOf ((List.range 32).map x)).toArray⟩ := by
    apply ByteArray.ext
    show (#[] : Array UInt8) ++ (Lib.bytesOf ((List.range 32).map x)).toArray = (Lib.bytesOf ((List.range 32).map x)).toArray
    simp
  rw [he] at hl
  exact hl
theorem run_compareRows {P : Program} (w : World) (a b : Nat) (x y : Nat → Int) (hx : ∀ k, k < 32 → w.cell? ⟨a, k, none⟩ = some (.int .u8 (x k))) (hy : ∀ k, k < 32 → w.cell? ⟨b, k, none⟩ = some (.int .u8 (y k))) :
    (Extern.BytealgCompare.compare #[.slice (some ⟨a, 0, none⟩) 32 32, .slice (some ⟨b, 0, none⟩) 32 32]).run P w = .ok (.int .i64 (cmpZ x y)) w := by
  change Sem.run P (do pure (goInt (Extern.BytealgCompare.cmp (← Extern.Bytes.bytesOf (.slice (some ⟨a, 0, none⟩) 32 32)) (← Extern.Bytes.bytesOf (.slice (some ⟨b, 0, none⟩) 32 32))))) w = _
  simp only [Sem.run_bind, run_loadRow w a x hx, run_loadRow w b y hy, Sem.run_pure, Result.andThen]
  rw [Lib.cmp_eq]
  rfl

set_option maxHeartbeats 400000 in
/-- bytes.Compare at two rows of 32 bytes. -/
theorem cmp_any (a b : Nat) (x y : Nat → Int) (w : World) (hx : ∀ k, k < 32 → w.cell? ⟨a, k, none⟩ = some (.int .u8 (x k))) (hy : ∀ k, k < 32 → w.cell? ⟨b, k, none⟩ = some (.int .u8 (y k))) :
    Calls Try.prog 43 #[.slice (some ⟨a, 0, none⟩) 32 32, .slice (some ⟨b, 0, none⟩) 32 32] w fun e w' => e = .returned (.int .i64 (cmpZ x y)) ∧ w' = w := by
  have hr := run_compareRows (P := Try.prog) w a b x y hx hy
  clear hx hy
  go_enter Try.func43, Try.ntmps43
  go_wp2
  rw [run_callFunc_extern Try.func48 (by kernel_rfl) (by kernel_rfl) (by kernel_rfl) (e := Extern.BytealgCompare.compare) (by kernel_rfl), hr]
  simp only [Result.andThen]
  rw [Oper.upon_value]
  go_wp2
  go_ret
  exact ⟨rfl, rfl⟩

set_option maxRecDepth 10000 in
set_option maxHeartbeats 400000 in
/-- compareIDs. -/
theorem cmpIDs_any (x y : Nat → Int) (w : World) :
    Calls Try.prog 30 #[.agg (row 33 x), .agg (row 33 y)] w fun e w' => e = .returned (.int .i64 (cmpZ x y)) ∧ Below w.heap.size w w' := by
  have hx : ∀ k, k < 32 → ((w.alloc (.cells (row 33 x) 25)).alloc (.cells (row 33 y) 25)).drew.cell? ⟨w.heap.size, k, none⟩ = some (.int .u8 (x k)) := fun k hk => by
    rw [cell_of_row _ w.heap.size k _ _ _ (show ((w.alloc (.cells (row 33 x) 25)).alloc (.cells (row 33 y) 25)).drew.heap[w.heap.size]? = _ from heap_alloc2_old w _ _)]; exact row_get 33 x k (by omega)
  have hy : ∀ k, k < 32 → ((w.alloc (.cells (row 33 x) 25)).alloc (.cells (row 33 y) 25)).drew.cell? ⟨w.heap.size + 1, k, none⟩ = some (.int .u8 (y k)) := fun k hk => by
    rw [cell_of_row _ (w.heap.size + 1) k _ _ _ (show ((w.alloc (.cells (row 33 x) 25)).alloc (.cells (row 33 y) 25)).drew.heap[w.heap.size + 1]? = _ from heap_alloc2_new w _ _)]; exact row_get 33 y k (by omega)
  have HC : Hid _ := cmp_any _ _ x y _ hx hy
  clear hx hy
  go_enter Try.func30, Try.ntmps30
  go_wp2
  go_region_with (go_at_call 43; refine Calls.mono HC.out ?_; rintro e w' ⟨rfl, rfl⟩)
  go_wp2
  go_ret
  exact ⟨rfl, (((Below.refl _ _).alloc (Nat.le_refl _) _).alloc (by simp) _).drew⟩

set_option maxRecDepth 10000 in
set_option maxHeartbeats 400000 in
/-- ZZCompareIDs. -/
theorem zzCmp_any (x y : Nat → Int) (w : World) :
    Calls Try.prog 10 #[.agg (row 33 x), .agg (row 33 y)] w fun e w' => e = .returned (.int .i64 (cmpZ x y)) ∧ Below w.heap.size w w' := by
  go_enter Try.func10, Try.ntmps10
  go_wp2_with (first
    | (refine wpList_load_row rfl 25 _ rfl _ rfl 25 _ (0, 0) _ (heap_alloc2_old w _ _) Try.underlying25 rfl (Try.size25 _) ?_)
    | (refine wpList_load_row rfl 25 _ rfl _ rfl 25 _ (0, 0) _ (heap_alloc2_new w _ _) Try.underlying25 rfl (Try.size25 _) ?_)
    | (go_at_call 30; refine (cmpIDs_any x y _).mono ?_; rintro e w' ⟨rfl, hb⟩))
  go_ret
  exact ⟨rfl, ((((Below.refl _ _).alloc (Nat.le_refl _) _).alloc (by simp) _)).trans (hb.mono (by simp; omega))⟩
end Go.Proofs.Qxb6604526a
