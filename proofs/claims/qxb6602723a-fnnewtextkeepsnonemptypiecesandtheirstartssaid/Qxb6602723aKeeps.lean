/-
  FnNewTextKeepsNonEmptyPiecesAndTheirStarts, walked.
-/
import Derived.Test.Qxb6602723aSame2
namespace Go.Proofs.Qxb6602723a
open Go.RowKit

theorem ne_take {x : Nat → Pc} {k n : Nat} (h : k ≤ n) : (ne x n).take (ne x k).length = ne x k := by
  obtain ⟨r, hr⟩ := ne_prefix x h
  rw [hr]
  simp
set_option maxRecDepth 10000 in
set_option maxHeartbeats 4000000 in
/-- The whole function: it answers true. -/
theorem keeps_any (v : Value) (n : Nat) (x : Nat → Pc) (z : Nat → Nat → Int) (w : World) (hv : PcsIn (· < w.heap.size) w v n x) (hp : ∀ i, i < n → PcIn (· < w.heap.size) w (x i) (z i)) (hn : n ≤ 9223372036854775807) (hok : ∀ i, i < n → (x i).n ≤ 9223372036854775807) :
    Calls Try.prog 5 #[v] w fun e w' => e = .returned (.bool true) ∧ Below w.heap.size w w' := by
  obtain ⟨aov, capv, rfl, hvr⟩ := hv
  have HV : Hid (PcsIn (· < w.heap.size) w (.slice aov n capv) n x) := ⟨aov, capv, rfl, hvr⟩
  have HN : Hid (n ≤ 9223372036854775807) := hn
  have HO : Hid (∀ i, i < n → (x i).n ≤ 9223372036854775807) := hok
  have HP : Hid (∀ i, i < n → PcIn (· < w.heap.size) w (x i) (z i)) := hp
  clear hvr hok hp
  go_enter Try.func5, Try.ntmps5
  go_wp2_with (fail)
  refine (zzBytesB_any _ n x w HV.out HN.out HO.out).mono ?_
  rintro e w1 ⟨⟨b1, rfl⟩, hb1⟩
  cases b1 with
  | false =>
    go_wp2_with (fail)
    go_ret
    exact ⟨rfl, hb1⟩
  | true =>
    by_cases hbig : n ≤ 65536
    · have hn1 : (n : Int) ≤ 65536 := by omega
      go_wp2_with (fail)
      go_loop [3, 4] (fun t i => ∃ k : Nat, k ≤ n ∧ i = .int .i64 k ∧ t = .int .i64 (24 * n + totLen x k : Nat) ∧ (totLen x k : Int) ≤ 1048576 ∧ ∀ j, j < k → ((x j).n : Int) ≤ 1048576) (fun _ i => n - (intOf i).toNat)
      case atStart => exact ⟨0, by omega, rfl, by simp [totLen], by simp [totLen], fun j hj => absurd hj (by omega)⟩
      case round =>
        obtain ⟨k, hk, rfl, rfl, ht, hall⟩ := hrel
        have HA : Hid (∀ j, j < k → ((x j).n : Int) ≤ 1048576) := hall
        clear hall
        have HV1 : Hid (PcsIn (· < w1.heap.size) w1 (.slice aov n capv) n x) := (HV.out.below hb1 (fun _ h => h)).mono (fun b h => Nat.lt_of_lt_of_le h hb1.size)
        by_cases hlt : k < n
        · obtain ⟨ao', cap', e', _, hc⟩ := HV1.out
          obtain ⟨rfl, rfl⟩ : aov = ao' ∧ capv = cap' := by simpa using e'
          obtain ⟨b, off, e, hbB, hrow⟩ := hc (by omega)
          subst e
          have hck := hrow k hlt
          unfold Pc.v at hck
          have hok := HO.out k hlt
          have HT : Hid (totLen x (k + 1) = totLen x k + (x k).n) := rfl
          clear hc hrow e'
          generalize totLen x k = S at *
          by_cases h1 : ((x k).n : Int) ≤ 1048576
          · by_cases h2 : ((24 * n + S + (x k).n : Nat) : Int) ≤ 1048576
            · go_wp2_with (fail)
              go_round
              case rel => exact ⟨k + 1, by omega, by go_num, by rw [HT.out]; go_num, by rw [HT.out]; omega, fun j hj => by
                by_cases ej : j = k
                · subst ej; exact h1
                · exact HA.out j (by omega)⟩
              case measure => simp [intOf]; omega
            · go_wp2_with (fail)
              go_ret
              exact ⟨rfl, hb1⟩
          · go_wp2_with (fail)
            go_ret
            exact ⟨rfl, hb1⟩
        · obtain rfl : n = k := by omega
          clear hk hlt
          go_wp2_with (fail)
          refine (cloneText_any _ n x z w1 HV1.out (fun i hi => ((HP.out i hi).below hb1 (fun _ h => h)).mono (fun b h => Nat.lt_of_lt_of_le h hb1.size)) hn1 HA.out).mono ?_
          rintro e w2 ⟨v1, y1, rfl, _, hPy, hSy, hb2⟩
          obtain ⟨ao, cap, rfl, hyr⟩ := hPy
          have HY1 : Hid (PcsIn (· < w2.heap.size) w2 (.slice ao n cap) n y1) := (show PcsIn (fun b => w1.heap.size ≤ b ∧ b < w2.heap.size) w2 (.slice ao n cap) n y1 from ⟨ao, cap, rfl, hyr⟩).mono (fun b h => h.2)
          have HS1 : Hid (∀ i, i < n → Same (· < w2.heap.size) w2 (x i) (y1 i) (z i)) := fun i hi => (hSy i hi).mono (fun b h => h.2)
          have l2 := hb1.trans (hb2.mono hb1.size)
          have HT2 : Hid ((totLen x n : Int) ≤ 1048576) := ht
          have HA1 : Hid (∀ i, i < n → ((y1 i).n : Int) ≤ 1048576) := fun i hi => by rw [(hSy i hi).1]; exact HA.out i hi
          clear hyr hSy hb2 ht
          go_wp2_with (fail)
          refine (cloneText_any _ n y1 z w2 HY1.out (fun i hi => (HS1.out i hi).2.2) hn1 HA1.out).mono ?_
          rintro e w3 ⟨v2, y2, rfl, hnil, hPy, hSy, hb3⟩
          obtain ⟨ao2, cap2, rfl, hyr⟩ := hPy
          have HY2 : Hid (PcsIn (· < w3.heap.size) w3 (.slice ao2 n cap2) n y2) := (show PcsIn (fun b => w2.heap.size ≤ b ∧ b < w3.heap.size) w3 (.slice ao2 n cap2) n y2 from ⟨ao2, cap2, rfl, hyr⟩).mono (fun b h => h.2)
          have HS2 : Hid (∀ i, i < n → Same (· < w3.heap.size) w3 (y1 i) (y2 i) (z i)) := fun i hi => (hSy i hi).mono (fun b h => h.2)
          have l3 := l2.trans (hb3.mono l2.size)
          have HNil : Hid (nilV (.slice ao2 n cap2) = nilV (.slice ao n cap)) := hnil
          have hsum : (sumLen (ne y2 n) : Int) ≤ 1048576 := by rw [sumLen_ne, totLen_congr n (fun i hi => (HS2.out i hi).1), totLen_congr n (fun i hi => (HS1.out i hi).1)]; exact HT2.out
          have HSu : Hid ((sumLen (ne y2 n) : Int) ≤ 1048576) := hsum
          have HB3 : Hid (Below w2.heap.size w2 w3) := hb3
          clear hyr hSy hsum hb3 hnil
          go_wp2_with (fail)
          refine (zNewText_any _ n y2 w3 HY2.out hn1 HSu.out).mono ?_
          rintro e w4 ⟨gs, os, cs, pv, rfl, hst, hgs, hPp, _, hb4⟩
          obtain ⟨ap, cp, rfl, hpr⟩ := hPp
          have hb24 : Below w2.heap.size w2 w4 := HB3.out.trans (hb4.mono HB3.out.size)
          have HPp : Hid (PcsIn (· < w4.heap.size) w4 (.slice ap (ne y2 n).length cp) (ne y2 n).length (nth (ne y2 n))) := ⟨ap, cp, rfl, hpr⟩
          have HST : Hid (∀ i, i < (ne y2 n).length + 1 → w4.cell? ⟨gs, os + i, none⟩ = some (.int .i64 (sumLen ((ne y2 n).take i) : Nat))) := hst
          have HT1 : Hid (PcsIn (· < w4.heap.size) w4 (.slice ao n cap) n y1) := (HY1.out.below hb24 (fun b h => h)).mono (fun b h => Nat.lt_of_lt_of_le h hb24.size)
          have HT2' : Hid (PcsIn (· < w4.heap.size) w4 (.slice ao2 n cap2) n y2) := (HY2.out.below hb4 (fun b h => h)).mono (fun b h => Nat.lt_of_lt_of_le h hb4.size)
          have HQ1 : Hid (∀ i, i < n → PcIn (· < w4.heap.size) w4 (y1 i) (z i)) := fun i hi => ((HS1.out i hi).2.2.below hb24 (fun b h => h)).mono (fun b h => Nat.lt_of_lt_of_le h hb24.size)
          have HQ2 : Hid (∀ i, i < n → PcIn (· < w4.heap.size) w4 (y2 i) (z i)) := fun i hi => ((HS2.out i hi).2.2.below hb4 (fun b h => h)).mono (fun b h => Nat.lt_of_lt_of_le h hb4.size)
          have l4 := l3.trans (hb4.mono l3.size)
          have hmn := ne_le y2 n
          clear hst hpr hb4 hb24
          go_wp2_with (fail)
          refine (sameText_any _ _ n y2 y1 z w4 HT2'.out HT1.out HNil.out HQ2.out HQ1.out (fun i hi => ⟨(HS2.out i hi).1.symm, (HS2.out i hi).2.1.symm⟩) hn1 (fun i hi => by rw [(HS2.out i hi).1]; exact HA1.out i hi)).mono ?_
          rintro e w5 ⟨rfl, hb5⟩
          have l5 := l4.trans (hb5.mono l4.size)
          have hmi : ((ne y2 n).length : Int) ≤ 65536 := by omega
          go_wp2_with (fail)
          go_loopw [8, 9, 10] (fun j s i wr => ∃ k : Nat, k ≤ n ∧ i = .int .i64 k ∧ j = .int .i64 (ne y2 k).length ∧ s = .int .i64 (totLen y2 k : Nat) ∧ Below w4.heap.size w4 wr) (fun _ _ i _ => n - (intOf i).toNat)
          case atStart => exact ⟨0, by omega, rfl, rfl, rfl, hb5⟩
          case round =>
            obtain ⟨k, hk, rfl, rfl, rfl, mB⟩ := hrel
            obtain ⟨wo, rfl⟩ : ∃ x, x = wr := ⟨_, rfl⟩
            clear hb5 l5
            have HTo : Hid (PcsIn (· < w4.heap.size) wo (.slice ao n cap) n y1) := HT1.out.below mB (fun _ h => h)
            have HPo : Hid (PcsIn (· < w4.heap.size) wo (.slice ap (ne y2 n).length cp) (ne y2 n).length (nth (ne y2 n))) := HPp.out.below mB (fun _ h => h)
            by_cases hlt : k < n
            · obtain ⟨ao', cap', e', _, hc⟩ := HTo.out
              obtain ⟨rfl, rfl⟩ : ao = ao' ∧ cap = cap' := by simpa using e'
              obtain ⟨b, off, e, hbB, hrow⟩ := hc (by omega)
              subst e
              have hck := hrow k hlt
              have hn12 : (y2 k).n = (y1 k).n := (HS2.out k hlt).1
              have HTL : Hid (totLen y2 (k + 1) = totLen y2 k + (y2 k).n) := rfl
              clear hc hrow e'
              by_cases h0 : (y2 k).n = 0
              · have HZ : Hid ((y2 k).n = 0) := h0
                unfold Pc.v at hck
                rw [← hn12, h0] at hck
                clear h0 hn12
                go_wp2_with (fail)
                refine ⟨?rel, ?measure⟩
                case rel => exact ⟨k + 1, by omega, by go_num, by rw [ne_zero HZ.out], by rw [HTL.out, HZ.out]; rfl, mB⟩
                case measure => simp [intOf]; omega
              · have HZ : Hid ((y2 k).n ≠ 0) := h0
                have hat := ne_at hlt h0
                have hjlt := ne_lt hlt h0
                obtain ⟨ap', cp', e2, _, hpc⟩ := HPo.out
                obtain ⟨rfl, rfl⟩ : ap = ap' ∧ cp = cp' := by simpa using e2
                obtain ⟨bp, offp, e3, hbP, hprow⟩ := hpc (by omega)
                subst e3
                have hpk := hprow _ hjlt
                rw [nth_of hat] at hpk
                have hstj := (mB.cell (p := ⟨gs, os + (ne y2 k).length, none⟩) hgs).trans (HST.out _ (by omega))
                rw [ne_take hk, sumLen_ne] at hstj
                clear hpc hprow e2 hat
                have hji : ((ne y2 k).length : Int) < (ne y2 n).length := by omega
                have HJ : Hid (ne y2 (k + 1) = ne y2 k ++ [y2 k]) := ne_more HZ.out
                have hle : ((totLen y2 k + (y2 k).n : Nat) : Int) ≤ 1048576 := by
                  obtain ⟨r, hr⟩ := ne_prefix y2 (show k + 1 ≤ n by omega)
                  have h2 := HSu.out
                  rw [hr, sumLen_append, sumLen_ne, HTL.out] at h2
                  omega
                have HPK : Hid (PcIn (· < wo.heap.size) wo (y2 k) (z k)) := ((HQ2.out k hlt).below mB (fun _ h => h)).mono (fun b h => Nat.lt_of_lt_of_le h mB.size)
                have HTK : Hid (PcIn (· < wo.heap.size) wo (y1 k) (z k)) := ((HQ1.out k hlt).below mB (fun _ h => h)).mono (fun b h => Nat.lt_of_lt_of_le h mB.size)
                have HNK : Hid ((y1 k).n = (y2 k).n) := hn12.symm
                have hbk2 : ((y2 k).n : Int) ≤ 1048576 := by rw [hn12]; exact HA1.out k hlt
                have hyn0 : 0 < (y2 k).n := by omega
                have hbo : b < wo.heap.size := Nat.lt_of_lt_of_le hbB mB.size
                have hbo' : bp < wo.heap.size := Nat.lt_of_lt_of_le hbP mB.size
                have hgo : gs < wo.heap.size := Nat.lt_of_lt_of_le hgs mB.size
                clear h0 hn12
                generalize hY2 : y2 k = p2 at *
                generalize hY1 : y1 k = p1 at *
                obtain ⟨pa, pn, pc⟩ := p2
                obtain ⟨qa, qn, qc⟩ := p1
                unfold Pc.v at hck hpk
                simp only at hck hpk hle hbk2 hyn0
                obtain rfl : qn = pn := HNK.out
                generalize hj' : (ne y2 k).length = j at *
                generalize hm' : (ne y2 n).length = m at *
                generalize hS' : totLen y2 k = S at *
                have HY2 : Hid (y2 k = ⟨pa, qn, pc⟩) := hY2
                clear hY2 hY1
                have hne0 : ¬ ((qn : Int) = 0) := by omega
                go_wp2_with (fail)
                refine wp_region_held_drew (S := fun w' => Below wo.heap.size wo w') (by kernel_rfl) (Below.refl _ _).drew (fun hHeld => ?_)
                refine takeV 0 76 _ rfl rfl (by kernel_rfl) (by kernel_rfl) (by kernel_rfl) (fun _ _ _ h => h) (by rfl) (fun wS hS => by (go_simp <;> with_reducible rfl)) hHeld ?_
                simp only [List.setIfInBounds_toArray, List.set_cons_zero, List.set_cons_succ]
                refine takeV 1 77 _ rfl rfl (by kernel_rfl) (by kernel_rfl) (by kernel_rfl) (fun _ _ _ h => h) (by rfl) (fun wS hS => by (go_simp <;> with_reducible rfl)) hHeld ?_
                simp only [List.setIfInBounds_toArray, List.set_cons_zero, List.set_cons_succ]
                refine takeV 2 78 _ rfl rfl (by kernel_rfl) (by kernel_rfl) (by kernel_rfl) (fun _ _ _ h => h) (by rfl) (fun wS hS => by (go_simp <;> with_reducible rfl)) hHeld ?_
                simp only [List.setIfInBounds_toArray, List.set_cons_zero, List.set_cons_succ]
                refine takeV 3 79 _ rfl rfl (by kernel_rfl) (by kernel_rfl) (by kernel_rfl) (fun _ _ _ h => h) (by rfl) (fun wS hS => by have hcl := (hS.cell (p := ⟨bp, offp + j, none⟩) hbo').trans hpk; (go_simp <;> with_reducible rfl)) hHeld ?_
                simp only [List.setIfInBounds_toArray, List.set_cons_zero, List.set_cons_succ]
                refine takeV 4 80 _ rfl rfl (by kernel_rfl) (by kernel_rfl) (by kernel_rfl) (fun _ _ _ h => h) (by rfl) (fun wS hS => by (go_simp <;> with_reducible rfl)) hHeld ?_
                simp only [List.setIfInBounds_toArray, List.set_cons_zero, List.set_cons_succ]
                refine takeV 5 81 _ rfl rfl (by kernel_rfl) (by kernel_rfl) (by kernel_rfl) (fun _ _ _ h => h) (by rfl) (fun wS hS => by (go_simp <;> with_reducible rfl)) hHeld ?_
                simp only [List.setIfInBounds_toArray, List.set_cons_zero, List.set_cons_succ]
                refine takeV 6 82 _ rfl rfl (by kernel_rfl) (by kernel_rfl) (by kernel_rfl) (fun _ _ _ h => h) (by rfl) (fun wS hS => by (go_simp <;> with_reducible rfl)) hHeld ?_
                simp only [List.setIfInBounds_toArray, List.set_cons_zero, List.set_cons_succ]
                refine takeV 7 83 _ rfl rfl (by kernel_rfl) (by kernel_rfl) (by kernel_rfl) (fun _ _ _ h => h) (by rfl) (fun wS hS => by have hcl := (hS.cell (p := ⟨b, off + k, none⟩) hbo).trans hck; (go_simp <;> with_reducible rfl)) hHeld ?_
                simp only [List.setIfInBounds_toArray, List.set_cons_zero, List.set_cons_succ]
                refine goOne 8 (by kernel_rfl) rfl (by rfl) (fun K hK => ?_)
                go_simp
                refine (sameBytes_any ⟨pa, qn, pc⟩ ⟨qa, qn, qc⟩ (z k) wo.drew HPK.out HTK.out rfl hbk2).mono ?_
                rintro e w6 ⟨rfl, hb6⟩
                have hh6 : Below wo.heap.size wo w6 := hHeld.trans hb6
                refine hK.out _ _ hh6 (fun hX => ?_)
                clear hK K hX
                replace hHeld := hh6
                refine takeV 9 85 (.bool false) rfl rfl (by kernel_rfl) (by kernel_rfl) (by kernel_rfl) (fun _ _ _ h => h) (by rfl) (fun wS hS => by go_simp) hHeld ?_
                simp only [List.setIfInBounds_toArray, List.set_cons_zero, List.set_cons_succ]
                refine wpAnyH_done (by kernel_rfl) ?_ _
                have hst6 := (hHeld.cell (p := ⟨gs, os + j, none⟩) hgo).trans hstj
                have hck6 := (hHeld.cell (p := ⟨b, off + k, none⟩) hbo).trans hck
                clear hb6 hh6 hstj hck hpk
                go_wp2_with (fail)
                refine ⟨?rel, ?measure⟩
                case rel => exact ⟨k + 1, by omega, by go_num, by rw [HJ.out, List.length_append, hj']; simp, by rw [HTL.out]; simp, mB.trans (hHeld.mono mB.size)⟩
                case measure => simp [intOf]; omega
            · obtain rfl : n = k := by omega
              have hstj := (mB.cell (p := ⟨gs, os + (ne y2 n).length, none⟩) hgs).trans (HST.out _ (by omega))
              rw [List.take_length, sumLen_ne] at hstj
              generalize hm' : (ne y2 n).length = m at *
              generalize hS' : totLen y2 n = S at *
              have l9 := l4.trans (mB.mono l4.size)
              go_wp2_with (fail)
              go_ret
              exact ⟨by simp, l9⟩
    · go_wp2_with (fail)
      go_ret
      exact ⟨rfl, hb1⟩
end Go.Proofs.Qxb6602723a
