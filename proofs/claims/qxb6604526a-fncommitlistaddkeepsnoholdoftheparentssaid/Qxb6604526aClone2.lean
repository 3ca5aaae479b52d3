/-
  zzCloneCommits, walked.
-/
import Derived.Test.Qxb6604526aReg
namespace Go.Proofs.Qxb6604526a
open Go.RowKit

theorem Try.info57 : (Try.prog.info? 57).map (fun i => (i.zero, i.size, i.bytes)) = some (some (.agg (comL ⟨fun _ => 0, fun _ => 0, 0, fun _ _ => 0, 0⟩ (.slice none 0 0)).toArray), 68, 104) := by kernel_rfl
theorem Try.sizeA57 (c : Com) (pv : Value) : (Try.prog.info? 57).map (·.size) = some (comL c pv).toArray.size := by rw [List.size_toArray, comL_length]; kernel_rfl
theorem comA_one (c : Com) (pv : Value) (hp : pv.oneCell' = true) : (comL c pv).toArray.all (·.oneCell') = true := by
  refine all_oneCell_toArray fun v hv => ?_
  unfold comL at hv
  simp only [List.mem_append, List.mem_cons, List.not_mem_nil, or_false] at hv
  rcases hv with h | h | h | h
  · exact rowL_one _ _ v h
  · exact rowL_one _ _ v h
  · rw [h]; exact hp
  · rw [h]; rfl
theorem built57 (c : Com) (ao : Option Addr) (n cap : Nat) : Try.prog.built 57 [(0, .agg (rowL 33 c.id).toArray), (1, .agg (rowL 33 c.tree).toArray), (2, .slice ao n cap), (3, .int .u64 c.time)] = some (comL c (.slice ao n cap)).toArray := by kernel_rfl
theorem grown_range {w w' : World} {g b o : Nat} {l : List Value} (h : w.rangeAt b o l) (hg : w.grownBy w' (some g)) (hne : b ≠ g) (hl : b < w.heap.size) : w'.rangeAt b o l := fun j v hv =>
  (World.cell?_of_block (a := ⟨b, o + j, none⟩) (hg.block b hl (by simpa using hne))).trans (h j v hv)
theorem grown_cell {w w' : World} {g b o : Nat} {v : Value} (h : w.cell? ⟨b, o, none⟩ = some v) (hg : w.grownBy w' (some g)) (hne : b ≠ g) (hl : b < w.heap.size) : w'.cell? ⟨b, o, none⟩ = some v :=
  (World.cell?_of_block (a := ⟨b, o, none⟩) (hg.block b hl (by simpa using hne))).trans h
theorem grown_refl (w : World) (r : Option Nat) : w.grownBy w r := ⟨rfl, rfl, rfl, Nat.le_refl _, fun _ _ _ => rfl⟩
theorem grown_below {w w1 w2 : World} {r : Option Nat} (h : w.grownBy w1 r) (hb : Below w1.heap.size w1 w2) : w.grownBy w2 r :=
  ⟨hb.os.trans h.os, hb.tape.trans h.tape, hb.output.trans h.output, Nat.le_trans h.size hb.size, fun k hk hr => (hb.block k (Nat.lt_of_lt_of_le hk h.size)).trans (h.block k hk hr)⟩
theorem grown_drew {w w1 : World} {r : Option Nat} (h : w.grownBy w1 r) : w.grownBy w1.drew r := ⟨h.os, h.tape, h.output, h.size, h.block⟩
theorem below_setCells' (g : Nat) : ∀ (vs : List Value) (o : Nat) (w : World), (w.setCells g o vs).os = w.os ∧ (w.setCells g o vs).tape = w.tape ∧ (w.setCells g o vs).output = w.output ∧ ∀ k, k ≠ g → (w.setCells g o vs).heap[k]? = w.heap[k]?
  | [], _, _ => ⟨rfl, rfl, rfl, fun _ _ => rfl⟩
  | v :: r, o, w => by
    obtain ⟨h1, h2, h3, h4⟩ := below_setCells' g r (o + 1) (w.setCell ⟨g, o, none⟩ v)
    exact ⟨h1, h2, h3, fun k hk => (h4 k hk).trans (Below.heap_setCell w ⟨g, o, none⟩ v k hk)⟩
theorem grown_setCells {w w1 : World} {g : Nat} (h : w.grownBy w1 (some g)) (o : Nat) (vs : List Value) : w.grownBy (w1.setCells g o vs) (some g) := by
  have hb := below_setCells' g vs o w1
  exact ⟨hb.1.trans h.os, hb.2.1.trans h.tape, hb.2.2.1.trans h.output, by rw [size_setCells]; exact h.size, fun k hk hr => (hb.2.2.2 k (by simpa using hr)).trans (h.block k hk hr)⟩

/-- The round's end of zzCloneCommits. -/
theorem there_com {w : World} {g k n : Nat} (h : w.there g 0 (n * 68)) (hk : k < n) (c : Com) (pv : Value) : w.there g (k * 68) (comL c pv).toArray.size := by
  rw [List.size_toArray, comL_length]
  exact there_part h (by omega)
theorem idsIn_set {R : Nat → Prop} {w : World} {v : Value} {np g : Nat} {p : Nat → Nat → Int} (h : IdsIn R w v np p) (o : Nat) (vs : List Value) (hR : ∀ b, R b → b ≠ g) : IdsIn R (w.setCells g o vs) v np p := by
  obtain ⟨ao, cap, h1, h2, h3⟩ := h
  refine ⟨ao, cap, h1, h2, fun h0 => ?_⟩
  obtain ⟨b, off, e, hlt, hr⟩ := h3 h0
  exact ⟨b, off, e, hlt, fun j hj => World.rangeAt_setCells_apart (hr j hj) _ _ _ (Or.inl (hR b hlt))⟩
theorem clone_rel {w wr w2 : World} {c : Nat → Com} {n k : Nat} {ao2 : Option Addr} {cap2 : Nat} (z0 : w.heap.size < wr.heap.size) (m0 : Below w.heap.size w wr)
    (HD : ∀ j, j < k → ∃ pv, wr.rangeAt w.heap.size (j * 68) (comL (c j) pv) ∧ IdsIn (fun b => w.heap.size < b ∧ b < wr.heap.size) wr pv (c j).np (c j).p)
    (hb2 : Below wr.heap.size wr w2) (ht2 : w2.there w.heap.size 0 (n * 68)) (htk : w2.there w.heap.size (k * 68) (comL (c k) (.slice ao2 (c k).np cap2)).length)
    (hi2 : IdsIn (fun b => wr.heap.size ≤ b ∧ b < w2.heap.size) w2 (.slice ao2 (c k).np cap2) (c k).np (c k).p) :
    (w2.setCells w.heap.size (k * 68) (comL (c k) (.slice ao2 (c k).np cap2))).there w.heap.size 0 (n * 68) ∧ Below w.heap.size w (w2.setCells w.heap.size (k * 68) (comL (c k) (.slice ao2 (c k).np cap2))) ∧
    w.heap.size < (w2.setCells w.heap.size (k * 68) (comL (c k) (.slice ao2 (c k).np cap2))).heap.size ∧
    ∀ j, j < k + 1 → ∃ pv, (w2.setCells w.heap.size (k * 68) (comL (c k) (.slice ao2 (c k).np cap2))).rangeAt w.heap.size (j * 68) (comL (c j) pv) ∧
      IdsIn (fun b => w.heap.size < b ∧ b < (w2.setCells w.heap.size (k * 68) (comL (c k) (.slice ao2 (c k).np cap2))).heap.size) (w2.setCells w.heap.size (k * 68) (comL (c k) (.slice ao2 (c k).np cap2))) pv (c j).np (c j).p := by
  have hs := size_setCells w.heap.size (comL (c k) (.slice ao2 (c k).np cap2)) (k * 68) w2
  refine ⟨World.there_setCells ht2 _ _ _, below_setCells _ (Nat.le_refl _) _ _ _ _ (m0.trans (hb2.mono (by omega))), by rw [hs]; exact Nat.lt_of_lt_of_le z0 hb2.size, fun j hj => ?_⟩
  have sz := hb2.size
  by_cases e : j = k
  · subst e
    refine ⟨_, World.rangeAt_setCells_same _ _ _ _ htk, ?_⟩
    exact (idsIn_set (hi2) _ _ (fun b h => by omega)).mono (fun b h => ⟨by omega, by rw [hs]; exact h.2⟩)
  · obtain ⟨pv, q1, q2⟩ := HD j (by omega)
    refine ⟨pv, World.rangeAt_setCells_apart (rangeAt_below q1 hb2 z0) _ _ _ (Or.inr (Or.inl (by rw [comL_length]; omega))), ?_⟩
    exact (idsIn_set (q2.below hb2 (fun b h => h.2)) _ _ (fun b h => by omega)).mono (fun b h => ⟨h.1, by rw [hs]; omega⟩)

set_option maxRecDepth 10000 in
set_option maxHeartbeats 2000000 in
/-- zzCloneCommits. -/
theorem cloneComs_any (v : Value) (n : Nat) (c : Nat → Com) (w : World) (hv : ComsIn (· < w.heap.size) w v n c) (hn : (n : Int) ≤ 65536) (hnp : ∀ i, i < n → ((c i).np : Int) ≤ 1048576) :
    Calls Try.prog 23 #[v] w fun e w' => ∃ v', e = .returned v' ∧ ComsIn (fun b => w.heap.size ≤ b ∧ b < w'.heap.size) w' v' n c ∧ Below w.heap.size w w' := by
  obtain ⟨ao, cap, rfl, hnil, hcs⟩ := hv
  obtain ⟨i0, hi, hz0, hz1, hz2⟩ := info_parts Try.info57
  have hnl := fun (w : World) (a : Option Addr) (n c : Nat) => Lib.run_eql_slice_nil (P := Try.prog) w 40 57 a n c 0 0 Try.underlying40
  cases ao with
  | none =>
    obtain ⟨rfl, rfl⟩ := hnil rfl
    go_enter Try.func23, Try.ntmps23
    go_wp2
    go_ret
    exact ⟨_, rfl, ⟨none, 0, rfl, fun _ => ⟨rfl, rfl⟩, fun h => absurd h (by omega)⟩, Below.refl _ _⟩
  | some a =>
    go_enter Try.func23, Try.ntmps23
    go_wp2_with (at_make; refine wpList_make_full _ rfl _ _ 40 rfl w.heap.size 57 i0 _ 68 Try.underlying40 hi hz0 hz1 _ _ _ _ n rfl rfl rfl rfl (by rw [hz2]; omega) (by unfold maxLen; omega) (Nat.le_refl _) ?_)
    intro w1 hown hgrow
    have ht := there_of_owns hown
    have l1 : Below w.heap.size w w1 := (Below.refl _ _).grown hgrow (Nat.le_refl _) (fun k h => by cases h)
    have y1 : w.heap.size < w1.heap.size := (hown.lt w.heap.size rfl).2
    clear hown hgrow hnl hi hz0 hz1 hz2
    go_wp2
    go_loopw [4] (fun i wr => ∃ k : Nat, k ≤ n ∧ i = .int .i64 k ∧ wr.there w.heap.size 0 (n * 68) ∧ Below w.heap.size w wr ∧ w.heap.size < wr.heap.size ∧ ∀ j, j < k → ∃ pv, wr.rangeAt w.heap.size (j * 68) (comL (c j) pv) ∧ IdsIn (fun b => w.heap.size < b ∧ b < wr.heap.size) wr pv (c j).np (c j).p) (fun i _ => n - (intOf i).toNat)
    case atStart => exact ⟨0, by omega, rfl, ht, l1, y1, fun j hj => absurd hj (by omega)⟩
    case round =>
      obtain ⟨k, hk, rfl, ht', m0, z0, hdone⟩ := hrel
      clear ht l1 y1
      by_cases hlt : k < n
      · obtain ⟨b, off, e, hbB, hrow⟩ := hcs (by omega)
        obtain rfl : a = ⟨b, off, none⟩ := by simpa using e
        have HD : Hid (∀ j, j < k → ∃ pv, wr.rangeAt w.heap.size (j * 68) (comL (c j) pv) ∧ IdsIn (fun b => w.heap.size < b ∧ b < wr.heap.size) wr pv (c j).np (c j).p) := hdone
        obtain ⟨pv, hr, hp⟩ := hrow k hlt
        have hrk := rangeAt_below hr m0 hbB
        have hpk : IdsIn (· < wr.heap.size) wr pv (c k).np (c k).p := (hp.below m0 (fun _ h => h)).mono (fun _ h => Nat.lt_of_lt_of_le h m0.size)
        clear hcs hrow hr hp hdone
        go_wp2
        obtain ⟨ao', cap', hpv, hpn, hpr⟩ := hpk
        subst hpv
        have hpk : IdsIn (· < wr.drew.heap.size) wr.drew (.slice ao' (c k).np cap') (c k).np (c k).p := ⟨ao', cap', rfl, hpn, hpr⟩
        clear hpn hpr
        have hne : b ≠ w.heap.size := by omega
        have hbl : b < wr.heap.size := by omega
        refine wp_region_held_drew (S := fun w' => wr.grownBy w' (some w.heap.size)) (by kernel_rfl) (grown_drew (grown_refl _ _)) (fun hHeld => ?_)
        refine takeV 0 16 _ rfl rfl (by kernel_rfl) (by kernel_rfl) (by kernel_rfl) (fun _ _ _ h => h) (by rfl) (fun wS hS => by (go_simp <;> with_reducible rfl)) hHeld ?_
        simp only [List.setIfInBounds_toArray, List.set_cons_zero, List.set_cons_succ]
        refine takeV 1 17 _ rfl rfl (by kernel_rfl) (by kernel_rfl) (by kernel_rfl) (fun _ _ _ h => h) (by rfl) (fun wS hS => by (go_simp <;> with_reducible rfl)) hHeld ?_
        simp only [List.setIfInBounds_toArray, List.set_cons_zero, List.set_cons_succ]
        refine takeV 2 18 _ rfl rfl (by kernel_rfl) (by kernel_rfl) (by kernel_rfl) (fun _ _ _ h => h) (by rfl) (fun wS hS => by (go_simp <;> with_reducible rfl)) hHeld ?_
        simp only [List.setIfInBounds_toArray, List.set_cons_zero, List.set_cons_succ]
        refine takeV 3 19 _ rfl rfl (by kernel_rfl) (by kernel_rfl) (by kernel_rfl) (fun _ _ _ h => h) (by rfl) (fun wS hS => by (go_simp <;> with_reducible rfl)) hHeld ?_
        simp only [List.setIfInBounds_toArray, List.set_cons_zero, List.set_cons_succ]
        refine takeV 4 20 _ rfl rfl (by kernel_rfl) (by kernel_rfl) (by kernel_rfl) (fun _ _ _ h => h) (by rfl) (fun wS hS => by (go_simp <;> with_reducible rfl)) hHeld ?_
        simp only [List.setIfInBounds_toArray, List.set_cons_zero, List.set_cons_succ]
        refine takeV 5 21 _ rfl rfl (by kernel_rfl) (by kernel_rfl) (by kernel_rfl) (fun _ _ _ h => h) (by rfl) (fun wS hS => by (go_simp <;> with_reducible rfl)) hHeld ?_
        simp only [List.setIfInBounds_toArray, List.set_cons_zero, List.set_cons_succ]
        refine takeL 6 22 rfl rfl 53 _ rfl _ _ rfl _ _ (by kernel_rfl) (by kernel_rfl) (by kernel_rfl) (fun _ _ _ h => h) (by rfl) (fun wS hS => grown_range (com_id hrk) hS hne hbl) Try.underlying53 rfl (Try.sizeL53 _) hHeld ?_
        simp only [List.setIfInBounds_toArray, List.set_cons_zero, List.set_cons_succ]
        refine takeV 7 23 _ rfl rfl (by kernel_rfl) (by kernel_rfl) (by kernel_rfl) (fun _ _ _ h => h) (by rfl) (fun wS hS => by (go_simp <;> with_reducible rfl)) hHeld ?_
        simp only [List.setIfInBounds_toArray, List.set_cons_zero, List.set_cons_succ]
        refine takeV 8 24 _ rfl rfl (by kernel_rfl) (by kernel_rfl) (by kernel_rfl) (fun _ _ _ h => h) (by rfl) (fun wS hS => by (go_simp <;> with_reducible rfl)) hHeld ?_
        simp only [List.setIfInBounds_toArray, List.set_cons_zero, List.set_cons_succ]
        refine takeV 9 25 _ rfl rfl (by kernel_rfl) (by kernel_rfl) (by kernel_rfl) (fun _ _ _ h => h) (by rfl) (fun wS hS => by (go_simp <;> with_reducible rfl)) hHeld ?_
        simp only [List.setIfInBounds_toArray, List.set_cons_zero, List.set_cons_succ]
        refine takeV 10 26 _ rfl rfl (by kernel_rfl) (by kernel_rfl) (by kernel_rfl) (fun _ _ _ h => h) (by rfl) (fun wS hS => by (go_simp <;> with_reducible rfl)) hHeld ?_
        simp only [List.setIfInBounds_toArray, List.set_cons_zero, List.set_cons_succ]
        refine takeL 11 27 rfl rfl 53 _ rfl _ _ rfl _ _ (by kernel_rfl) (by kernel_rfl) (by kernel_rfl) (fun _ _ _ h => h) (by rfl) (fun wS hS => grown_range (com_tree hrk) hS hne hbl) Try.underlying53 rfl (Try.sizeL53 _) hHeld ?_
        simp only [List.setIfInBounds_toArray, List.set_cons_zero, List.set_cons_succ]
        refine takeV 12 28 _ rfl rfl (by kernel_rfl) (by kernel_rfl) (by kernel_rfl) (fun _ _ _ h => h) (by rfl) (fun wS hS => by (go_simp <;> with_reducible rfl)) hHeld ?_
        simp only [List.setIfInBounds_toArray, List.set_cons_zero, List.set_cons_succ]
        refine takeV 13 29 _ rfl rfl (by kernel_rfl) (by kernel_rfl) (by kernel_rfl) (fun _ _ _ h => h) (by rfl) (fun wS hS => by (go_simp <;> with_reducible rfl)) hHeld ?_
        simp only [List.setIfInBounds_toArray, List.set_cons_zero, List.set_cons_succ]
        refine takeV 14 30 _ rfl rfl (by kernel_rfl) (by kernel_rfl) (by kernel_rfl) (fun _ _ _ h => h) (by rfl) (fun wS hS => by (go_simp <;> with_reducible rfl)) hHeld ?_
        simp only [List.setIfInBounds_toArray, List.set_cons_zero, List.set_cons_succ]
        refine takeV 15 31 _ rfl rfl (by kernel_rfl) (by kernel_rfl) (by kernel_rfl) (fun _ _ _ h => h) (by rfl) (fun wS hS => by (go_simp <;> with_reducible rfl)) hHeld ?_
        simp only [List.setIfInBounds_toArray, List.set_cons_zero, List.set_cons_succ]
        refine takeV 16 32 _ rfl rfl (by kernel_rfl) (by kernel_rfl) (by kernel_rfl) (fun _ _ _ h => h) (by rfl) (fun wS hS => by have hcl := grown_cell (com_pv hrk) hS hne hbl; (go_simp <;> with_reducible rfl)) hHeld ?_
        simp only [List.setIfInBounds_toArray, List.set_cons_zero, List.set_cons_succ]
        refine takeV 18 34 _ rfl rfl (by kernel_rfl) (by kernel_rfl) (by kernel_rfl) (fun _ _ _ h => h) (by rfl) (fun wS hS => by (go_simp <;> with_reducible rfl)) hHeld ?_
        simp only [List.setIfInBounds_toArray, List.set_cons_zero, List.set_cons_succ]
        refine takeV 19 35 _ rfl rfl (by kernel_rfl) (by kernel_rfl) (by kernel_rfl) (fun _ _ _ h => h) (by rfl) (fun wS hS => by (go_simp <;> with_reducible rfl)) hHeld ?_
        simp only [List.setIfInBounds_toArray, List.set_cons_zero, List.set_cons_succ]
        refine takeV 20 36 _ rfl rfl (by kernel_rfl) (by kernel_rfl) (by kernel_rfl) (fun _ _ _ h => h) (by rfl) (fun wS hS => by (go_simp <;> with_reducible rfl)) hHeld ?_
        simp only [List.setIfInBounds_toArray, List.set_cons_zero, List.set_cons_succ]
        refine takeV 21 37 _ rfl rfl (by kernel_rfl) (by kernel_rfl) (by kernel_rfl) (fun _ _ _ h => h) (by rfl) (fun wS hS => by (go_simp <;> with_reducible rfl)) hHeld ?_
        simp only [List.setIfInBounds_toArray, List.set_cons_zero, List.set_cons_succ]
        refine takeV 22 38 _ rfl rfl (by kernel_rfl) (by kernel_rfl) (by kernel_rfl) (fun _ _ _ h => h) (by rfl) (fun wS hS => by have hcl := grown_cell (com_time hrk) hS hne hbl; (go_simp <;> with_reducible rfl)) hHeld ?_
        simp only [List.setIfInBounds_toArray, List.set_cons_zero, List.set_cons_succ]
        refine goOne 17 (by kernel_rfl) rfl (by rfl) (fun K hK => ?_)
        go_simp
        refine (cloneIDs_any _ _ _ _ hpk (hnp k hlt)).mono ?_
        rintro e w2 ⟨v', rfl, hid2, hb2⟩
        have hg2 := grown_below hHeld hb2
        refine hK.out _ _ hg2 (fun hHeld => ?_)
        clear hK K
        clear hg2
        obtain ⟨ao2, cap2, hv2, hn2, hr2⟩ := hid2
        subst hv2
        refine takeB 23 39 (comL (c k) (.slice ao2 (c k).np cap2)|>.toArray) rfl rfl _ _ rfl (by kernel_rfl) (by kernel_rfl) (by kernel_rfl) (fun _ _ _ h => h) (by rfl) (by simp [Act.eval]; exact built57 (c k) _ _ _) hHeld ?_
        simp only [List.setIfInBounds_toArray, List.set_cons_zero, List.set_cons_succ]
        refine takeV 24 40 _ rfl rfl (by kernel_rfl) (by kernel_rfl) (by kernel_rfl) (fun _ _ _ h => h) (by rfl) (fun wS hS => by (go_simp <;> with_reducible rfl)) hHeld ?_
        simp only [List.setIfInBounds_toArray, List.set_cons_zero, List.set_cons_succ]
        have ht2 : w2.there w.heap.size 0 (n * 68) := there_below (w := wr.drew) ht' hb2 z0
        have htk : w2.there w.heap.size (k * 68) (comL (c k) (.slice ao2 (c k).np cap2)).toArray.size := there_com ht2 hlt _ _
        refine goOne 25 (by kernel_rfl) rfl (by rfl) (fun K hK => ?_)
        refine wp_store_mid 57 _ _ rfl _ _ _ rfl rfl htk (Try.sizeA57 _ _) (comA_one _ _ rfl) ?_
        refine hK.out _ _ (grown_setCells hHeld _ _) (fun _ => ?_)
        clear hK K
        obtain ⟨wz, hz⟩ : ∃ wz, wz = w2.setCells w.heap.size (k * 68) (comL (c k) (.slice ao2 (c k).np cap2)) := ⟨_, rfl⟩
        rw [show w2.setCells w.heap.size (k * 68) (comL (c k) (.slice ao2 (c k).np cap2)).toArray.toList = wz from hz.symm]
        have HZ : Hid (wz = w2.setCells w.heap.size (k * 68) (comL (c k) (.slice ao2 (c k).np cap2))) := hz
        clear hz
        refine wpAnyH_done (by kernel_rfl) ?_ _
        go_wp2
        go_roundw
        case rel =>
          have hz := HZ.out
          subst hz
          have htl : w2.there w.heap.size (k * 68) (comL (c k) (.slice ao2 (c k).np cap2)).length := by simpa using htk
          obtain ⟨c1, c2, c3, c4⟩ := clone_rel z0 m0 HD.out ((Below.refl _ wr).drew.trans hb2) ht2 htl ⟨ao2, cap2, rfl, hn2, hr2⟩
          exact ⟨k + 1, by omega, by go_num, c1, c2, c3, c4⟩
        case measure => simp [intOf]; omega
      · have hkn : k = n := by omega
        subst hkn
        go_wp2
        go_ret
        exact ⟨_, rfl, ⟨some ⟨w.heap.size, 0, none⟩, k, rfl, (fun h => by cases h), fun _ => ⟨_, _, rfl, ⟨Nat.le_refl _, z0⟩, fun j hj => by rw [Nat.zero_add]; obtain ⟨pv, q1, q2⟩ := hdone j hj; exact ⟨pv, q1, q2.mono (fun _ h => ⟨by omega, h.2⟩)⟩⟩⟩, m0⟩
end Go.Proofs.Qxb6604526a
