/-
  zzCloneZIDs, zzIDs, zzCloneCommits, walked.
-/
import Derived.Test.Qxb6604526aBytes
namespace Go.Proofs.Qxb6604526a
open Go.RowKit

theorem below_setCells {B : Nat} (b : Nat) (hb : B ≤ b) : ∀ (vs : List Value) (o : Nat) (a w : World), Below B a w → Below B a (w.setCells b o vs)
  | [], _, _, _, h => h
  | v :: r, o, a, _, h => below_setCells b hb r (o + 1) a _ (h.setCell hb v)
theorem size_setCells (b : Nat) : ∀ (vs : List Value) (o : Nat) (w : World), (w.setCells b o vs).heap.size = w.heap.size
  | [], _, _ => rfl
  | _ :: r, o, _ => (size_setCells b r (o + 1) _).trans (by simp [World.setCell])
theorem there_of_owns {w : World} {base e size n cap g : Nat} {xs : List Value} (h : w.ownsRow base e size (.slice (some ⟨g, 0, none⟩) n cap) n xs) : w.there g 0 (n * size) := fun j hj => by
  rw [Nat.zero_add]
  refine ⟨?_, h.frozenAt j⟩
  rw [h.cellAt j hj]
  have : j < xs.length := by rw [h.1]; exact hj
  rw [List.getElem?_eq_getElem this]; rfl
theorem there_part {w : World} {g m k s : Nat} {n : Nat} (h : w.there g 0 m) (hk : k * s + n ≤ m) : w.there g (k * s) n := fun j hj => by
  have := h (k * s + j) (by omega)
  rwa [Nat.zero_add] at this
/-- A whole row stored: the world behind it a letter. -/
theorem wpList_store_midH {P : Program} {ops : Array Oper} {rest : List Oper} {op : Oper} {a : Act} {w : World} {Q : Exit → Act → World → Prop} (hgd : op.guard = none) (ty : TypeId) (x y : Operand) (ho : op.op = .store ty x y)
    (b o : Nat) (cells : Array Value) (hx : a.eval x = .pointer (some ⟨b, o, none⟩)) (hy : a.eval y = .agg cells)
    (ht : w.there b o cells.size) (hi : (P.info? ty).map (·.size) = some cells.size) (h1 : cells.all (·.oneCell') = true)
    (h : ∀ w', Hid (w' = w.setCells b o cells.toList) → wpList P ops Q rest (a.put op.dst undef) w') : wpList P ops Q (op :: rest) a w :=
  wpList_store_mid hgd ty x y ho b o cells hx hy ht hi h1 (h _ rfl)
theorem there_row {w : World} {g k np : Nat} (h : w.there g 0 (np * 33)) (hk : k < np) (x : Nat → Int) : w.there g (k * 33) (rowL 33 x).toArray.size := by
  rw [List.size_toArray, rowL_length]
  exact there_part h (by omega)
theorem there_below {w w' : World} {B g m : Nat} (h : w.there g 0 m) (hb : Below B w w') (hg : g < B) : w'.there g 0 m := fun j hj => by
  have := h j hj
  exact ⟨by rw [hb.cell (p := ⟨g, 0 + j, none⟩) hg]; exact this.1, by rw [hb.frozen (p := ⟨g, 0 + j, none⟩) hg]; exact this.2⟩
theorem Try.info53 : (Try.prog.info? 53).map (fun i => (i.zero, i.size, i.bytes)) = some (some (.agg (row 33 fun _ => 0)), 33, 33) := by kernel_rfl
theorem Try.info25 : (Try.prog.info? 25).map (fun i => (i.zero, i.size, i.bytes)) = some (some (.agg (row 33 fun _ => 0)), 33, 33) := by kernel_rfl
theorem Try.sizeA53 (z : Nat → Int) : (Try.prog.info? 53).map (·.size) = some (rowL 33 z).toArray.size := by rw [List.size_toArray, rowL_length]; kernel_rfl
theorem Try.sizeA25 (z : Nat → Int) : (Try.prog.info? 25).map (·.size) = some (rowL 33 z).toArray.size := by rw [List.size_toArray, rowL_length]; kernel_rfl
theorem rowA_one (n : Nat) (x : Nat → Int) : (rowL n x).toArray.all (·.oneCell') = true := row_one n x
theorem rowL_one (n : Nat) (x : Nat → Int) : ∀ v ∈ rowL n x, v.oneCell' = true := by simp [rowL, Value.oneCell']

set_option maxRecDepth 10000 in
set_option maxHeartbeats 1000000 in
/-- zzCloneZIDs. -/
theorem cloneIDs_any (v : Value) (np : Nat) (p : Nat → Nat → Int) (w : World) (hv : IdsIn (· < w.heap.size) w v np p) (hn : (np : Int) ≤ 1048576) :
    Calls Try.prog 36 #[v] w fun e w' => ∃ v', e = .returned v' ∧ IdsIn (fun b => w.heap.size ≤ b ∧ b < w'.heap.size) w' v' np p ∧ Below w.heap.size w w' := by
  obtain ⟨ao, cap, rfl, hnil, hids⟩ := hv
  obtain ⟨i0, hi, hz0, hz1, hz2⟩ := info_parts Try.info53
  have hnl := fun (w : World) (a : Option Addr) (n c : Nat) => Lib.run_eql_slice_nil (P := Try.prog) w 54 53 a n c 0 0 Try.underlying54
  cases ao with
  | none =>
    obtain ⟨rfl, rfl⟩ := hnil rfl
    go_enter Try.func36, Try.ntmps36
    go_wp2
    go_ret
    exact ⟨_, rfl, ⟨none, 0, rfl, fun _ => ⟨rfl, rfl⟩, fun h => absurd h (by omega)⟩, Below.refl _ _⟩
  | some a =>
    go_enter Try.func36, Try.ntmps36
    go_wp2_with (at_make; refine wpList_make_full _ rfl _ _ 54 rfl w.heap.size 53 i0 (.agg (row 33 fun _ => 0)) 33 Try.underlying54 hi hz0 hz1 _ _ _ _ np rfl rfl rfl rfl (by rw [hz2]; omega) (by unfold maxLen; omega) (Nat.le_refl _) ?_)
    intro w1 hown hgrow
    have ht := there_of_owns hown
    have l1 : Below w.heap.size w w1 := (Below.refl _ _).grown hgrow (Nat.le_refl _) (fun k h => by cases h)
    have y1 : w.heap.size < w1.heap.size := (hown.lt w.heap.size rfl).2
    clear hown hgrow hnl hi hz0 hz1 hz2
    go_wp2
    go_loopw [4] (fun i wr => ∃ k : Nat, k ≤ np ∧ i = .int .i64 k ∧ wr.there w.heap.size 0 (np * 33) ∧ Below w.heap.size w wr ∧ w.heap.size < wr.heap.size ∧ ∀ j, j < k → wr.rangeAt w.heap.size (j * 33) (rowL 33 (p j))) (fun i _ => np - (intOf i).toNat)
    case atStart => exact ⟨0, by omega, rfl, ht, l1, y1, fun j hj => absurd hj (by omega)⟩
    case round =>
      obtain ⟨k, hk, rfl, ht', m0, z0, hdone⟩ := hrel
      clear ht l1 y1
      by_cases hlt : k < np
      · obtain ⟨b, off, e, hbB, hrow⟩ := hids (by omega)
        obtain rfl : a = ⟨b, off, none⟩ := by simpa using e
        have hrk := rangeAt_below (hrow k hlt) m0 hbB
        have htk : wr.there w.heap.size (k * 33) (rowL 33 (p k)).toArray.size := there_row ht' hlt (p k)
        clear hids hrow
        have HD : Hid (∀ j, j < k → wr.rangeAt w.heap.size (j * 33) (rowL 33 (p j))) := hdone
        clear hdone
        go_wp2_with (first
          | (refine wpList_load_midG (by rfl) 53 _ rfl _ _ rfl _ _ hrk Try.underlying53 rfl (Try.sizeL53 _) ?_)
          | (refine wpList_store_midH rfl 53 _ _ rfl _ _ _ rfl rfl htk (Try.sizeA53 _) (rowA_one _ _) ?_; intro wz hz))
        go_roundw
        case rel =>
          have hz' : wz = wr.setCells w.heap.size (k * 33) (rowL 33 (p k)) := hz.out
          subst hz'
          refine ⟨k + 1, by omega, by go_num, World.there_setCells ht' _ _ _, below_setCells _ (Nat.le_refl _) _ _ _ _ m0, by rw [size_setCells]; exact z0, fun j hj => ?_⟩
          by_cases e : j = k
          · subst e
            exact World.rangeAt_setCells_same _ _ _ _ (by simpa using htk)
          · exact World.rangeAt_setCells_apart (HD.out j (by omega)) _ _ _ (Or.inr (Or.inl (by rw [rowL_length]; omega)))
        case measure => simp [intOf]; omega
      · have hkn : k = np := by omega
        subst hkn
        go_wp2
        go_ret
        exact ⟨_, rfl, ⟨some ⟨w.heap.size, 0, none⟩, k, rfl, (fun h => by cases h), fun _ => ⟨_, _, rfl, ⟨Nat.le_refl _, z0⟩, fun j hj => by rw [Nat.zero_add]; exact hdone j hj⟩⟩, m0⟩

set_option maxRecDepth 10000 in
set_option maxHeartbeats 1000000 in
/-- zzIDs. -/
theorem ids_any (v : Value) (np : Nat) (p : Nat → Nat → Int) (w : World) (hv : IdsIn (· < w.heap.size) w v np p) (hn : (np : Int) ≤ 1048576) :
    Calls Try.prog 26 #[v] w fun e w' => ∃ v', e = .returned v' ∧ IdsIn (fun b => w.heap.size ≤ b ∧ b < w'.heap.size) w' v' np p ∧ Below w.heap.size w w' := by
  obtain ⟨ao, cap, rfl, hnil, hids⟩ := hv
  obtain ⟨i0, hi, hz0, hz1, hz2⟩ := info_parts Try.info25
  have hnl := fun (w : World) (a : Option Addr) (n c : Nat) => Lib.run_eql_slice_nil (P := Try.prog) w 54 53 a n c 0 0 Try.underlying54
  cases ao with
  | none =>
    obtain ⟨rfl, rfl⟩ := hnil rfl
    go_enter Try.func26, Try.ntmps26
    go_wp2
    go_ret
    exact ⟨_, rfl, ⟨none, 0, rfl, fun _ => ⟨rfl, rfl⟩, fun h => absurd h (by omega)⟩, Below.refl _ _⟩
  | some a =>
    go_enter Try.func26, Try.ntmps26
    go_wp2_with (at_make; refine wpList_make_full _ rfl _ _ 44 rfl w.heap.size 25 i0 (.agg (row 33 fun _ => 0)) 33 Try.underlying44 hi hz0 hz1 _ _ _ _ np rfl rfl rfl rfl (by rw [hz2]; omega) (by unfold maxLen; omega) (Nat.le_refl _) ?_)
    intro w1 hown hgrow
    have ht := there_of_owns hown
    have l1 : Below w.heap.size w w1 := (Below.refl _ _).grown hgrow (Nat.le_refl _) (fun k h => by cases h)
    have y1 : w.heap.size < w1.heap.size := (hown.lt w.heap.size rfl).2
    clear hown hgrow hnl hi hz0 hz1 hz2
    go_wp2
    go_loopw [4] (fun i wr => ∃ k : Nat, k ≤ np ∧ i = .int .i64 k ∧ wr.there w.heap.size 0 (np * 33) ∧ Below w.heap.size w wr ∧ w.heap.size < wr.heap.size ∧ ∀ j, j < k → wr.rangeAt w.heap.size (j * 33) (rowL 33 (p j))) (fun i _ => np - (intOf i).toNat)
    case atStart => exact ⟨0, by omega, rfl, ht, l1, y1, fun j hj => absurd hj (by omega)⟩
    case round =>
      obtain ⟨k, hk, rfl, ht', m0, z0, hdone⟩ := hrel
      clear ht l1 y1
      by_cases hlt : k < np
      · obtain ⟨b, off, e, hbB, hrow⟩ := hids (by omega)
        obtain rfl : a = ⟨b, off, none⟩ := by simpa using e
        have hrk := rangeAt_below (hrow k hlt) m0 hbB
        have htk : wr.there w.heap.size (k * 33) (rowL 33 (p k)).toArray.size := there_row ht' hlt (p k)
        clear hids hrow
        have HD : Hid (∀ j, j < k → wr.rangeAt w.heap.size (j * 33) (rowL 33 (p j))) := hdone
        clear hdone
        go_wp2_with (first
          | (refine wpList_load_midG (by rfl) 53 _ rfl _ _ rfl _ _ hrk Try.underlying53 rfl (Try.sizeL53 _) ?_)
          | fail)
        refine (id_any (p k) _).mono ?_
        rintro e ws ⟨rfl, hb⟩
        clear hrk htk
        have ht2 : ws.there w.heap.size 0 (np * 33) := there_below ht' hb z0
        have htk : ws.there w.heap.size (k * 33) (rowL 33 (p k)).toArray.size := there_row ht2 hlt (p k)
        replace m0 := m0.trans (hb.mono (by omega))
        have z2 := Nat.lt_of_lt_of_le z0 hb.size
        replace HD : Hid (∀ j, j < k → ws.rangeAt w.heap.size (j * 33) (rowL 33 (p j))) := fun j hj => rangeAt_below (HD.out j hj) hb z0
        clear hb z0 ht'
        go_wp2_with (refine wpList_store_midH rfl 25 _ _ rfl _ _ _ rfl rfl htk (Try.sizeA25 _) (rowA_one _ _) ?_; intro wz hz)
        go_roundw
        case rel =>
          have hz' : wz = ws.setCells w.heap.size (k * 33) (rowL 33 (p k)) := hz.out
          subst hz'
          refine ⟨k + 1, by omega, by go_num, World.there_setCells ht2 _ _ _, below_setCells _ (Nat.le_refl _) _ _ _ _ m0, by rw [size_setCells]; exact z2, fun j hj => ?_⟩
          by_cases e : j = k
          · subst e
            exact World.rangeAt_setCells_same _ _ _ _ (by simpa using htk)
          · exact World.rangeAt_setCells_apart (HD.out j (by omega)) _ _ _ (Or.inr (Or.inl (by rw [rowL_length]; omega)))
        case measure => simp [intOf]; omega
      · have hkn : k = np := by omega
        subst hkn
        go_wp2
        go_ret
        exact ⟨_, rfl, ⟨some ⟨w.heap.size, 0, none⟩, k, rfl, (fun h => by cases h), fun _ => ⟨_, _, rfl, ⟨Nat.le_refl _, z0⟩, fun j hj => by rw [Nat.zero_add]; exact hdone j hj⟩⟩, m0⟩
end Go.Proofs.Qxb6604526a
