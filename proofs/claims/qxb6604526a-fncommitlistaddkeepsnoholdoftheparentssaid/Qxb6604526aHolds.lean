/-
  zzListHolds, walked: it answers true of the list that ZZListAdd laid.
-/
import Derived.Test.Qxb6604526aRead2
namespace Go.Proofs.Qxb6604526a
open Go.RowKit

theorem eq25_self (x : Nat → Int) (w : World) : (Op.equalIn 10000 25 (.agg (row 33 x)) (.agg (row 33 x))).run Try.prog w = .ok true w := by
  rw [run_eq25 x x w]
  simp [eqId]
theorem wrap_i64_in (n : Int) (h0 : 0 ≤ n) (h1 : n ≤ 9223372036854775807) : IntKind.i64.wrap n = n := by
  simp [IntKind.wrap, IntKind.bits, IntKind.signed]
  omega
theorem neq_op {ev : Operand → Value} {o : Oper} {w : World} (x y : Operand) (r : TypeId) (ho : o.op = .binOp .neq 25 x y r) (z : Nat → Int) (hx : ev x = .agg (row 33 z)) (hy : ev y = .agg (row 33 z)) : (execOp ev o).run Try.prog w = .ok (.value (.bool false)) w := by
  have hq : Try.prog.eqGuardType Try.prog.depth 25 = false := by kernel_rfl
  have hg : (eqGuard .neq 25 x y (.agg (row 33 z)) (.agg (row 33 z))).run Try.prog w = .ok () w := by
    unfold eqGuard
    simp [hq]
  have he : (Op.equal 25 (.agg (row 33 z)) (.agg (row 33 z))).run Try.prog w = .ok true w := eq25_self z w
  unfold execOp
  simp only [ho, hx, hy, Sem.run_bind, hg, Result.andThen_ok, binOp, he, Sem.run_pure]
  rfl

set_option maxRecDepth 10000 in
set_option maxHeartbeats 4000000 in
/-- zzListHolds. -/
theorem holds_any (bl base : Nat) (v : Value) (n : Nat) (c : Nat → Com) (w : World) (v0 v1 v2 v3 : Value) (h : LIs bl base w v0 v1 v2 v3 n n (sumNp c n) n (flatIds c n) (flatComs c n) (flatPs c n) (flatSpans c n))
    (hv : ComsIn (· < w.heap.size) w v n c) (hn : (n : Int) ≤ 65536) (hs : (sumNp c n : Int) ≤ 1048576) :
    Calls Try.prog 27 #[.pointer (some ⟨bl, 0, none⟩), v] w fun e w' => e = .returned (.bool true) ∧ Below w.heap.size w w' := by
  obtain ⟨ao, cap, rfl, hnil, hcs⟩ := hv
  go_enter Try.func27, Try.ntmps27
  go_wp2
  go_loop [5, 6] (fun t i => ∃ k : Nat, k ≤ n ∧ i = .int .i64 k ∧ t = .int .i64 (sumNp c k : Nat)) (fun _ i => n - (intOf i).toNat)
  case atStart => exact ⟨0, by omega, rfl, by simp [sumNp]⟩
  case round =>
    obtain ⟨k, hk, rfl, rfl⟩ := hrel
    by_cases hlt : k < n
    · obtain ⟨b, off, rfl, hbB, hrow⟩ := hcs (by omega)
      obtain ⟨pv, hr, hp⟩ := hrow k hlt
      have hpv := com_pv hr
      obtain ⟨ao', cap', rfl, _, _⟩ := hp
      have HS : Hid (sumNp c (k + 1) = sumNp c k + (c k).np) := rfl
      have hle : ((sumNp c k + (c k).np : Nat) : Int) ≤ 1048576 := by
        have := sumNp_le c (show k + 1 ≤ n by omega)
        rw [HS.out] at this
        omega
      clear hcs hrow hr h hs
      generalize sumNp c k = S at *
      go_wp2
      go_round
      case rel => exact ⟨k + 1, by omega, by go_num, by rw [HS.out]; go_num⟩
      case measure => simp [intOf]; omega
    · have hkn : k = n := by omega
      subst hkn
      have HL : Hid (LIs bl base w v0 v1 v2 v3 k k (sumNp c k) k (flatIds c k) (flatComs c k) (flatPs c k) (flatSpans c k)) := h
      have HC : Hid (0 < k → ∃ b off, ao = some ⟨b, off, none⟩ ∧ b < w.heap.size ∧ ∀ i, i < k → ∃ pv, w.rangeAt b (off + i * 68) (comL (c i) pv) ∧ IdsIn (· < w.heap.size) w pv (c i).np (c i).p) := hcs
      clear h hcs hnil
      go_wp2_with (fail)
      refine (lens_any bl base w _ _ _ _ _ _ _ _ _ _ _ _ HL.out).mono ?_
      rintro e wl ⟨rfl, hbl⟩
      go_wp2_with (fail)
      go_loopw [11, 12] (fun t i wr => ∃ m : Nat, m ≤ k ∧ i = .int .i64 m ∧ t = .int .i64 (sumNp c m : Nat) ∧ Below w.heap.size w wr) (fun _ i _ => k - (intOf i).toNat)
      case atStart => exact ⟨0, by omega, rfl, by simp [sumNp], hbl⟩
      case round =>
        obtain ⟨m, hm, rfl, rfl, m0⟩ := hrel
        obtain ⟨wo, rfl⟩ : ∃ x, x = wr := ⟨_, rfl⟩
        clear hbl
        by_cases hlt2 : m < k
        · obtain ⟨b, off, e, hbB, hrow⟩ := HC.out (by omega)
          subst e
          obtain ⟨pv, hr, hp⟩ := hrow m hlt2
          have hrk := rangeAt_below hr m0 hbB
          have hbB' : b < wo.heap.size := Nat.lt_of_lt_of_le hbB m0.size
          obtain ⟨ao', cap', hpv, hpn, hpr⟩ := hp
          subst hpv
          have HP : Hid (0 < (c m).np → ∃ b' off', ao' = some ⟨b', off', none⟩ ∧ b' < w.heap.size ∧ ∀ j, j < (c m).np → w.rangeAt b' (off' + j * 33) (rowL 33 ((c m).p j))) := hpr
          have HLr : Hid (LIs bl base wo v0 v1 v2 v3 k k (sumNp c k) k (flatIds c k) (flatComs c k) (flatPs c k) (flatSpans c k)) := HL.out.grown m0
          have HS : Hid (sumNp c (m + 1) = sumNp c m + (c m).np) := rfl
          have hle : ((sumNp c m + (c m).np : Nat) : Int) ≤ 1048576 := by
            have := sumNp_le c (show m + 1 ≤ k by omega)
            rw [HS.out] at this
            omega
          clear hrow hr hpr hpn
          go_wp2_with (fail)
          refine wp_region_held_drew (S := fun w' => Below wo.heap.size wo w') (by kernel_rfl) (Below.refl _ _).drew (fun hHeld => ?_)
          refine takeV 0 69 _ rfl rfl (by kernel_rfl) (by kernel_rfl) (by kernel_rfl) (fun _ _ _ h => h) (by rfl) (fun wS hS => by (go_simp <;> with_reducible rfl)) hHeld ?_
          simp only [List.setIfInBounds_toArray, List.set_cons_zero, List.set_cons_succ]
          refine takeV 1 70 _ rfl rfl (by kernel_rfl) (by kernel_rfl) (by kernel_rfl) (fun _ _ _ h => h) (by rfl) (fun wS hS => by (go_simp <;> with_reducible rfl)) hHeld ?_
          simp only [List.setIfInBounds_toArray, List.set_cons_zero, List.set_cons_succ]
          refine takeV 3 72 _ rfl rfl (by kernel_rfl) (by kernel_rfl) (by kernel_rfl) (fun _ _ _ h => h) (by rfl) (fun wS hS => by (go_simp <;> with_reducible rfl)) hHeld ?_
          simp only [List.setIfInBounds_toArray, List.set_cons_zero, List.set_cons_succ]
          refine takeV 4 73 _ rfl rfl (by kernel_rfl) (by kernel_rfl) (by kernel_rfl) (fun _ _ _ h => h) (by rfl) (fun wS hS => by (go_simp <;> with_reducible rfl)) hHeld ?_
          simp only [List.setIfInBounds_toArray, List.set_cons_zero, List.set_cons_succ]
          refine takeV 5 74 _ rfl rfl (by kernel_rfl) (by kernel_rfl) (by kernel_rfl) (fun _ _ _ h => h) (by rfl) (fun wS hS => by (go_simp <;> with_reducible rfl)) hHeld ?_
          simp only [List.setIfInBounds_toArray, List.set_cons_zero, List.set_cons_succ]
          refine takeV 6 75 _ rfl rfl (by kernel_rfl) (by kernel_rfl) (by kernel_rfl) (fun _ _ _ h => h) (by rfl) (fun wS hS => by (go_simp <;> with_reducible rfl)) hHeld ?_
          simp only [List.setIfInBounds_toArray, List.set_cons_zero, List.set_cons_succ]
          refine takeL 7 76 rfl rfl 53 _ rfl _ _ rfl _ _ (by kernel_rfl) (by kernel_rfl) (by kernel_rfl) (fun _ _ _ h => h) (by rfl) (fun wS hS => rangeAt_below (com_id hrk) hS hbB') Try.underlying53 rfl (Try.sizeL53 _) hHeld ?_
          simp only [List.setIfInBounds_toArray, List.set_cons_zero, List.set_cons_succ]
          refine goOne 2 (by kernel_rfl) rfl (by rfl) (fun K hK => ?_)
          go_simp
          refine (listID_any bl base _ _ _ _ _ _ _ _ _ _ _ _ _ (HLr.out.drew) m hlt2 (c m).id (flatIds_get c k m hlt2)).mono ?_
          rintro e w2 ⟨rfl, hb2⟩
          have h2 : Below wo.heap.size wo w2 := hHeld.trans (hb2.mono hHeld.size)
          refine hK.out _ _ h2 (fun hX => ?_)
          clear hK K hX
          replace hHeld := h2
          clear h2 hb2
          refine goOne 8 (by kernel_rfl) rfl (by rfl) (fun K hK => ?_)
          go_simp
          refine (id_any _ _).mono ?_
          rintro e w3 ⟨rfl, hb3⟩
          have h3 : Below wo.heap.size wo w3 := hHeld.trans (hb3.mono hHeld.size)
          refine hK.out _ _ h3 (fun hX => ?_)
          clear hK K hX
          replace hHeld := h3
          clear h3 hb3 w2
          refine takeV 9 78 (.bool false) rfl rfl (by kernel_rfl) (by kernel_rfl) (by kernel_rfl) (fun _ _ _ h => h) (by rfl) (fun wS hS => by exact neq_op (.tmp 71) (.tmp 77) 25 rfl (c m).id rfl rfl) hHeld ?_
          simp only [List.setIfInBounds_toArray, List.set_cons_zero, List.set_cons_succ]
          refine wpAnyH_done (by kernel_rfl) ?_ _
          go_wp2_with (fail)
          refine (listCommit_any bl base _ _ _ _ _ _ _ _ _ _ _ _ _ (HLr.out.grown hHeld) m hlt2 (c m) (flatComs_get c k m hlt2)).mono ?_
          rintro e w4 ⟨rfl, hb4⟩
          have h4 : Below wo.heap.size wo w4 := hHeld.trans (hb4.mono hHeld.size)
          clear hb4 hHeld
          clear w3
          go_wp2_with (first
            | (refine wpList_store_row rfl 25 _ _ rfl _ (row 33 (c m).tree) rfl rfl 25 _ (heap_alloc_new w4 _) (Try.size25 _) (by rw [row_size]; rfl) (row_one _ _) ?_; rw [World.setRow_alloc_new])
            | fail)
          have hq4 := h4.size
          obtain ⟨w5, hw5⟩ : ∃ w5, w5 = w4.alloc (.cells (row 33 (c m).tree) 25) := ⟨_, rfl⟩
          rw [← hw5]
          have h5 : Below wo.heap.size wo w5 := by rw [hw5]; exact h4.alloc hq4 _
          have hB5 : w5.heap[w4.heap.size]? = some (.cells (row 33 (c m).tree) 25 (0, 0)) := by rw [hw5]; exact heap_alloc_new _ _
          have hs5 : w4.heap.size < w5.heap.size := by rw [hw5]; simp
          have hr5 := rangeAt_below hrk h5 hbB'
          have hb5 : b < w5.heap.size := by omega
          clear hw5 h4
          refine wp_region_held_drew (S := fun w' => Below w5.heap.size w5 w') (by kernel_rfl) (Below.refl _ _).drew (fun hHeld => ?_)
          refine takeL 0 88 rfl rfl 25 _ rfl _ _ rfl _ _ (by kernel_rfl) (by kernel_rfl) (by kernel_rfl) (fun _ _ _ h => h) (by rfl) (fun wS hS => rangeAt_below (rangeAt_block hB5) hS hs5) Try.underlying25 rfl (Try.sizeL25 _) hHeld ?_
          simp only [List.setIfInBounds_toArray, List.set_cons_zero, List.set_cons_succ]
          refine takeV 1 89 _ rfl rfl (by kernel_rfl) (by kernel_rfl) (by kernel_rfl) (fun _ _ _ h => h) (by rfl) (fun wS hS => by (go_simp <;> with_reducible rfl)) hHeld ?_
          simp only [List.setIfInBounds_toArray, List.set_cons_zero, List.set_cons_succ]
          refine takeV 2 90 _ rfl rfl (by kernel_rfl) (by kernel_rfl) (by kernel_rfl) (fun _ _ _ h => h) (by rfl) (fun wS hS => by (go_simp <;> with_reducible rfl)) hHeld ?_
          simp only [List.setIfInBounds_toArray, List.set_cons_zero, List.set_cons_succ]
          refine takeV 3 91 _ rfl rfl (by kernel_rfl) (by kernel_rfl) (by kernel_rfl) (fun _ _ _ h => h) (by rfl) (fun wS hS => by (go_simp <;> with_reducible rfl)) hHeld ?_
          simp only [List.setIfInBounds_toArray, List.set_cons_zero, List.set_cons_succ]
          refine takeV 4 92 _ rfl rfl (by kernel_rfl) (by kernel_rfl) (by kernel_rfl) (fun _ _ _ h => h) (by rfl) (fun wS hS => by (go_simp <;> with_reducible rfl)) hHeld ?_
          simp only [List.setIfInBounds_toArray, List.set_cons_zero, List.set_cons_succ]
          refine takeL 5 93 rfl rfl 53 _ rfl _ _ rfl _ _ (by kernel_rfl) (by kernel_rfl) (by kernel_rfl) (fun _ _ _ h => h) (by rfl) (fun wS hS => rangeAt_below (com_tree hr5) hS hb5) Try.underlying53 rfl (Try.sizeL53 _) hHeld ?_
          simp only [List.setIfInBounds_toArray, List.set_cons_zero, List.set_cons_succ]
          refine goOne 6 (by kernel_rfl) rfl (by rfl) (fun K hK => ?_)
          go_simp
          refine (id_any _ _).mono ?_
          rintro e w6 ⟨rfl, hb6⟩
          have h6 : Below w5.heap.size w5 w6 := hHeld.trans (hb6.mono hHeld.size)
          refine hK.out _ _ h6 (fun hX => ?_)
          clear hK K hX
          replace hHeld := h6
          clear h6 hb6
          refine takeV 7 95 (.bool false) rfl rfl (by kernel_rfl) (by kernel_rfl) (by kernel_rfl) (fun _ _ _ h => h) (by rfl) (fun wS hS => by exact neq_op (.tmp 88) (.tmp 94) 25 rfl (c m).tree rfl rfl) hHeld ?_
          simp only [List.setIfInBounds_toArray, List.set_cons_zero, List.set_cons_succ]
          refine takeV 8 96 _ rfl rfl (by kernel_rfl) (by kernel_rfl) (by kernel_rfl) (fun _ _ _ h => h) (by rfl) (fun wS hS => by (go_simp <;> with_reducible rfl)) hHeld ?_
          simp only [List.setIfInBounds_toArray, List.set_cons_zero, List.set_cons_succ]
          refine takeV 9 97 _ rfl rfl (by kernel_rfl) (by kernel_rfl) (by kernel_rfl) (fun _ _ _ h => h) (by rfl) (fun wS hS => by (go_simp <;> with_reducible rfl)) hHeld ?_
          simp only [List.setIfInBounds_toArray, List.set_cons_zero, List.set_cons_succ]
          refine takeV 10 98 (.bool false) rfl rfl (by kernel_rfl) (by kernel_rfl) (by kernel_rfl) (fun _ _ _ h => h) (by rfl) (fun wS hS => by have hq := Lib.run_equalIn_slice_nil (P := Try.prog) wS 9999 77 78 none 0 0 0 0 Try.underlying77; go_simp) hHeld ?_
          simp only [List.setIfInBounds_toArray, List.set_cons_zero, List.set_cons_succ]
          refine takeV 11 99 _ rfl rfl (by kernel_rfl) (by kernel_rfl) (by kernel_rfl) (fun _ _ _ h => h) (by rfl) (fun wS hS => by (go_simp <;> with_reducible rfl)) hHeld ?_
          simp only [List.setIfInBounds_toArray, List.set_cons_zero, List.set_cons_succ]
          refine takeV 12 100 _ rfl rfl (by kernel_rfl) (by kernel_rfl) (by kernel_rfl) (fun _ _ _ h => h) (by rfl) (fun wS hS => by (go_simp <;> with_reducible rfl)) hHeld ?_
          simp only [List.setIfInBounds_toArray, List.set_cons_zero, List.set_cons_succ]
          refine takeV 13 101 _ rfl rfl (by kernel_rfl) (by kernel_rfl) (by kernel_rfl) (fun _ _ _ h => h) (by rfl) (fun wS hS => by (go_simp <;> with_reducible rfl)) hHeld ?_
          simp only [List.setIfInBounds_toArray, List.set_cons_zero, List.set_cons_succ]
          refine takeV 14 102 _ rfl rfl (by kernel_rfl) (by kernel_rfl) (by kernel_rfl) (fun _ _ _ h => h) (by rfl) (fun wS hS => by (go_simp <;> with_reducible rfl)) hHeld ?_
          simp only [List.setIfInBounds_toArray, List.set_cons_zero, List.set_cons_succ]
          refine takeV 15 103 _ rfl rfl (by kernel_rfl) (by kernel_rfl) (by kernel_rfl) (fun _ _ _ h => h) (by rfl) (fun wS hS => by (go_simp <;> with_reducible rfl)) hHeld ?_
          simp only [List.setIfInBounds_toArray, List.set_cons_zero, List.set_cons_succ]
          refine takeV 16 104 _ rfl rfl (by kernel_rfl) (by kernel_rfl) (by kernel_rfl) (fun _ _ _ h => h) (by rfl) (fun wS hS => by (go_simp <;> with_reducible rfl)) hHeld ?_
          simp only [List.setIfInBounds_toArray, List.set_cons_zero, List.set_cons_succ]
          refine takeV 17 105 _ rfl rfl (by kernel_rfl) (by kernel_rfl) (by kernel_rfl) (fun _ _ _ h => h) (by rfl) (fun wS hS => by (go_simp <;> with_reducible rfl)) hHeld ?_
          simp only [List.setIfInBounds_toArray, List.set_cons_zero, List.set_cons_succ]
          refine takeV 18 106 _ rfl rfl (by kernel_rfl) (by kernel_rfl) (by kernel_rfl) (fun _ _ _ h => h) (by rfl) (fun wS hS => by have hcl := (com_time hr5); have hcl2 := (hS.cell (p := ⟨b, off + m * 68 + 67, none⟩) hb5).trans hcl; clear hcl; (go_simp <;> with_reducible rfl)) hHeld ?_
          simp only [List.setIfInBounds_toArray, List.set_cons_zero, List.set_cons_succ]
          refine takeV 19 107 (.bool false) rfl rfl (by kernel_rfl) (by kernel_rfl) (by kernel_rfl) (fun _ _ _ h => h) (by rfl) (fun wS hS => by go_simp) hHeld ?_
          simp only [List.setIfInBounds_toArray, List.set_cons_zero, List.set_cons_succ]
          refine takeV 20 108 _ rfl rfl (by kernel_rfl) (by kernel_rfl) (by kernel_rfl) (fun _ _ _ h => h) (by rfl) (fun wS hS => by (go_simp <;> with_reducible rfl)) hHeld ?_
          simp only [List.setIfInBounds_toArray, List.set_cons_zero, List.set_cons_succ]
          refine takeV 21 109 _ rfl rfl (by kernel_rfl) (by kernel_rfl) (by kernel_rfl) (fun _ _ _ h => h) (by rfl) (fun wS hS => by (go_simp <;> with_reducible rfl)) hHeld ?_
          simp only [List.setIfInBounds_toArray, List.set_cons_zero, List.set_cons_succ]
          refine takeV 22 110 _ rfl rfl (by kernel_rfl) (by kernel_rfl) (by kernel_rfl) (fun _ _ _ h => h) (by rfl) (fun wS hS => by (go_simp <;> with_reducible rfl)) hHeld ?_
          simp only [List.setIfInBounds_toArray, List.set_cons_zero, List.set_cons_succ]
          refine takeV 23 111 (.bool false) rfl rfl (by kernel_rfl) (by kernel_rfl) (by kernel_rfl) (fun _ _ _ h => h) (by rfl) (fun wS hS => by go_simp) hHeld ?_
          simp only [List.setIfInBounds_toArray, List.set_cons_zero, List.set_cons_succ]
          refine takeV 24 112 _ rfl rfl (by kernel_rfl) (by kernel_rfl) (by kernel_rfl) (fun _ _ _ h => h) (by rfl) (fun wS hS => by (go_simp <;> with_reducible rfl)) hHeld ?_
          simp only [List.setIfInBounds_toArray, List.set_cons_zero, List.set_cons_succ]
          refine takeV 25 113 _ rfl rfl (by kernel_rfl) (by kernel_rfl) (by kernel_rfl) (fun _ _ _ h => h) (by rfl) (fun wS hS => by (go_simp <;> with_reducible rfl)) hHeld ?_
          simp only [List.setIfInBounds_toArray, List.set_cons_zero, List.set_cons_succ]
          refine takeV 26 114 _ rfl rfl (by kernel_rfl) (by kernel_rfl) (by kernel_rfl) (fun _ _ _ h => h) (by rfl) (fun wS hS => by (go_simp <;> with_reducible rfl)) hHeld ?_
          simp only [List.setIfInBounds_toArray, List.set_cons_zero, List.set_cons_succ]
          refine takeV 27 115 (.bool false) rfl rfl (by kernel_rfl) (by kernel_rfl) (by kernel_rfl) (fun _ _ _ h => h) (by rfl) (fun wS hS => by go_simp) hHeld ?_
          simp only [List.setIfInBounds_toArray, List.set_cons_zero, List.set_cons_succ]
          refine takeV 28 116 _ rfl rfl (by kernel_rfl) (by kernel_rfl) (by kernel_rfl) (fun _ _ _ h => h) (by rfl) (fun wS hS => by (go_simp <;> with_reducible rfl)) hHeld ?_
          simp only [List.setIfInBounds_toArray, List.set_cons_zero, List.set_cons_succ]
          refine wpAnyH_done (by kernel_rfl) ?_ _
          replace hHeld := h5.trans (hHeld.mono h5.size)
          clear h5 hB5 hs5 hr5 hb5
          clear w5
          go_wp2_with (fail)
          refine (listSpan_any bl base _ _ _ _ _ _ _ _ _ _ _ _ _ (HLr.out.grown hHeld) m hlt2 _ _ (flatSpans_get c k m hlt2)).mono ?_
          rintro e w7 ⟨rfl, hb7⟩
          have h7 := hHeld.trans (hb7.mono hHeld.size)
          have hpv7 := (h7.cell (p := ⟨b, off + m * 68 + 66, none⟩) hbB').trans (com_pv hrk)
          clear hb7 hHeld hq4
          clear w6
          rw [HS.out]
          go_wp2_with (fail)
          go_loopw [20] (fun j wj => ∃ q : Nat, q ≤ (c m).np ∧ j = .int .i64 q ∧ Below wo.heap.size wo wj) (fun j _ => (c m).np - (intOf j).toNat)
          case atStart => exact ⟨0, by omega, rfl, h7⟩
          case round =>
            obtain ⟨q, hq, rfl, mj⟩ := hrel
            clear hpv7 h7
            obtain ⟨wj, rfl⟩ : ∃ x, x = wr := ⟨_, rfl⟩
            have hpvj := (mj.cell (p := ⟨b, off + m * 68 + 66, none⟩) hbB').trans (com_pv hrk)
            by_cases hltq : q < (c m).np
            · obtain ⟨b', off', e', hb', hrp⟩ := HP.out (by omega)
              subst e'
              have hbw : b' < wo.heap.size := Nat.lt_of_lt_of_le hb' m0.size
              have hrq := rangeAt_below (rangeAt_below (hrp q hltq) m0 hb') mj hbw
              have hbj : b' < wj.heap.size := Nat.lt_of_lt_of_le hbw mj.size
              have hblj : b < wj.heap.size := Nat.lt_of_lt_of_le hbB' mj.size
              clear hrp
              go_wp2_with (fail)
              have hqk : sumNp c m + q < sumNp c k := by
                have := sumNp_le c (show m + 1 ≤ k by omega)
                rw [HS.out] at this
                omega
              refine wp_region_held_drew (S := fun w' => Below wj.heap.size wj w') (by kernel_rfl) (Below.refl _ _).drew (fun hHeld => ?_)
              refine takeV 0 148 _ rfl rfl (by kernel_rfl) (by kernel_rfl) (by kernel_rfl) (fun _ _ _ h => h) (by rfl) (fun wS hS => by (go_simp <;> with_reducible rfl)) hHeld ?_
              simp only [List.setIfInBounds_toArray, List.set_cons_zero, List.set_cons_succ]
              refine takeV 1 149 _ rfl rfl (by kernel_rfl) (by kernel_rfl) (by kernel_rfl) (fun _ _ _ h => h) (by rfl) (fun wS hS => by (go_simp <;> with_reducible rfl)) hHeld ?_
              simp only [List.setIfInBounds_toArray, List.set_cons_zero, List.set_cons_succ]
              refine takeV 2 150 _ rfl rfl (by kernel_rfl) (by kernel_rfl) (by kernel_rfl) (fun _ _ _ h => h) (by rfl) (fun wS hS => by (go_simp <;> with_reducible rfl)) hHeld ?_
              simp only [List.setIfInBounds_toArray, List.set_cons_zero, List.set_cons_succ]
              refine takeV 3 151 (.int .i64 (sumNp c m + q : Nat)) rfl rfl (by kernel_rfl) (by kernel_rfl) (by kernel_rfl) (fun _ _ _ h => h) (by rfl) (fun wS hS => by (go_simp; exact wrap_i64_in _ (by omega) (by omega))) hHeld ?_
              simp only [List.setIfInBounds_toArray, List.set_cons_zero, List.set_cons_succ]
              refine takeV 5 153 _ rfl rfl (by kernel_rfl) (by kernel_rfl) (by kernel_rfl) (fun _ _ _ h => h) (by rfl) (fun wS hS => by (go_simp <;> with_reducible rfl)) hHeld ?_
              simp only [List.setIfInBounds_toArray, List.set_cons_zero, List.set_cons_succ]
              refine takeV 6 154 _ rfl rfl (by kernel_rfl) (by kernel_rfl) (by kernel_rfl) (fun _ _ _ h => h) (by rfl) (fun wS hS => by (go_simp <;> with_reducible rfl)) hHeld ?_
              simp only [List.setIfInBounds_toArray, List.set_cons_zero, List.set_cons_succ]
              refine takeV 7 155 _ rfl rfl (by kernel_rfl) (by kernel_rfl) (by kernel_rfl) (fun _ _ _ h => h) (by rfl) (fun wS hS => by (go_simp <;> with_reducible rfl)) hHeld ?_
              simp only [List.setIfInBounds_toArray, List.set_cons_zero, List.set_cons_succ]
              refine takeV 8 156 _ rfl rfl (by kernel_rfl) (by kernel_rfl) (by kernel_rfl) (fun _ _ _ h => h) (by rfl) (fun wS hS => by (go_simp <;> with_reducible rfl)) hHeld ?_
              simp only [List.setIfInBounds_toArray, List.set_cons_zero, List.set_cons_succ]
              refine takeV 9 157 _ rfl rfl (by kernel_rfl) (by kernel_rfl) (by kernel_rfl) (fun _ _ _ h => h) (by rfl) (fun wS hS => by have hcl := (hS.cell (p := ⟨b, off + m * 68 + 66, none⟩) hblj).trans hpvj; (go_simp <;> with_reducible rfl)) hHeld ?_
              simp only [List.setIfInBounds_toArray, List.set_cons_zero, List.set_cons_succ]
              refine takeV 10 158 _ rfl rfl (by kernel_rfl) (by kernel_rfl) (by kernel_rfl) (fun _ _ _ h => h) (by rfl) (fun wS hS => by (go_simp <;> with_reducible rfl)) hHeld ?_
              simp only [List.setIfInBounds_toArray, List.set_cons_zero, List.set_cons_succ]
              refine takeV 11 159 _ rfl rfl (by kernel_rfl) (by kernel_rfl) (by kernel_rfl) (fun _ _ _ h => h) (by rfl) (fun wS hS => by (go_simp <;> with_reducible rfl)) hHeld ?_
              simp only [List.setIfInBounds_toArray, List.set_cons_zero, List.set_cons_succ]
              refine takeL 12 160 rfl rfl 53 _ rfl _ _ rfl _ _ (by kernel_rfl) (by kernel_rfl) (by kernel_rfl) (fun _ _ _ h => h) (by rfl) (fun wS hS => rangeAt_below hrq hS hbj) Try.underlying53 rfl (Try.sizeL53 _) hHeld ?_
              simp only [List.setIfInBounds_toArray, List.set_cons_zero, List.set_cons_succ]
              refine goOne 4 (by kernel_rfl) rfl (by rfl) (fun K hK => ?_)
              go_simp
              refine (listParent_any bl base _ _ _ _ _ _ _ _ _ _ _ _ _ ((HLr.out.grown mj).drew) (sumNp c m + q) hqk ((c m).p q) ((flatPs_get c k).2 m hlt2 q hltq)).mono ?_
              rintro e w8 ⟨rfl, hb8⟩
              have h8 : Below wj.heap.size wj w8 := hHeld.trans (hb8.mono hHeld.size)
              refine hK.out _ _ h8 (fun hX => ?_)
              clear hK K hX
              replace hHeld := h8
              clear h8 hb8
              refine goOne 13 (by kernel_rfl) rfl (by rfl) (fun K hK => ?_)
              go_simp
              refine (id_any _ _).mono ?_
              rintro e w9 ⟨rfl, hb9⟩
              have h9 : Below wj.heap.size wj w9 := hHeld.trans (hb9.mono hHeld.size)
              refine hK.out _ _ h9 (fun hX => ?_)
              clear hK K hX
              replace hHeld := h9
              clear h9 hb9
              clear w8
              refine takeV 14 162 (.bool false) rfl rfl (by kernel_rfl) (by kernel_rfl) (by kernel_rfl) (fun _ _ _ h => h) (by rfl) (fun wS hS => by exact neq_op (.tmp 152) (.tmp 161) 25 rfl ((c m).p q) rfl rfl) hHeld ?_
              simp only [List.setIfInBounds_toArray, List.set_cons_zero, List.set_cons_succ]
              refine wpAnyH_done (by kernel_rfl) ?_ _
              replace hHeld := mj.trans (hHeld.mono mj.size)
              clear hrq hbj hblj hpvj
              go_wp2_with (fail)
              go_roundw
              case rel => exact ⟨q + 1, by omega, by go_num, hHeld⟩
              case measure => simp [intOf]; omega
            · have hqn : q = (c m).np := by omega
              subst hqn
              go_wp2_with (fail)
              go_roundw
              case rel => exact ⟨m + 1, by omega, by go_num, by rw [HS.out]; simp, m0.trans (mj.mono m0.size)⟩
              case measure => simp [intOf]; omega
        · have hmk : m = k := by omega
          subst hmk
          go_wp2_with (fail)
          go_ret
          exact ⟨rfl, m0⟩
end Go.Proofs.Qxb6604526a
