/-
  zzSameText, walked: true of equal texts.
-/
import Derived.Test.Qxb6602723aReg
namespace Go.Proofs.Qxb6602723a
open Go.RowKit

set_option maxRecDepth 10000 in
set_option maxHeartbeats 4000000 in
/-- zzSameText of two texts of the same pieces. -/
theorem sameText_any (v1 v2 : Value) (n : Nat) (x1 x2 : Nat → Pc) (z : Nat → Nat → Int) (w : World) (h1 : PcsIn (· < w.heap.size) w v1 n x1) (h2 : PcsIn (· < w.heap.size) w v2 n x2) (hnl : nilV v1 = nilV v2)
    (p1 : ∀ i, i < n → PcIn (· < w.heap.size) w (x1 i) (z i)) (p2 : ∀ i, i < n → PcIn (· < w.heap.size) w (x2 i) (z i)) (hnn : ∀ i, i < n → (x2 i).n = (x1 i).n ∧ ((x2 i).a = none ↔ (x1 i).a = none)) (hn : (n : Int) ≤ 65536) (hb : ∀ i, i < n → ((x1 i).n : Int) ≤ 1048576) :
    Calls Try.prog 15 #[v1, v2] w fun e w' => e = .returned (.bool true) ∧ Below w.heap.size w w' := by
  obtain ⟨a1, c1, rfl, _, hc1⟩ := h1
  obtain ⟨a2, c2, rfl, _, hc2⟩ := h2
  have HC1 : Hid (0 < n → ∃ b off, a1 = some ⟨b, off, none⟩ ∧ b < w.heap.size ∧ ∀ i, i < n → w.cell? ⟨b, off + i, none⟩ = some (x1 i).v) := hc1
  have HC2 : Hid (0 < n → ∃ b off, a2 = some ⟨b, off, none⟩ ∧ b < w.heap.size ∧ ∀ i, i < n → w.cell? ⟨b, off + i, none⟩ = some (x2 i).v) := hc2
  have HP1 : Hid (∀ i, i < n → PcIn (· < w.heap.size) w (x1 i) (z i)) := p1
  have HP2 : Hid (∀ i, i < n → PcIn (· < w.heap.size) w (x2 i) (z i)) := p2
  have HNN : Hid (∀ i, i < n → (x2 i).n = (x1 i).n ∧ ((x2 i).a = none ↔ (x1 i).a = none)) := hnn
  have HB : Hid (∀ i, i < n → ((x1 i).n : Int) ≤ 1048576) := hb
  clear hc1 hc2 p1 p2 hnn hb
  have hq30 := fun (w : World) (a : Option Addr) (n c : Nat) => Lib.run_eql_slice_nil (P := Try.prog) w 30 27 a n c 0 0 Try.underlying30
  have hiso : a1.isNone = a2.isNone := by cases a1 <;> cases a2 <;> simp_all [nilV]
  clear hnl
  go_enter Try.func15, Try.ntmps15
  go_wp2_with (fail)
  clear hq30
  go_loopw [5] (fun i wr => ∃ k : Nat, k ≤ n ∧ i = .int .i64 k ∧ Below w.heap.size w wr) (fun i _ => n - (intOf i).toNat)
  case atStart => exact ⟨0, by omega, rfl, Below.refl _ _⟩
  case round =>
    obtain ⟨k, hk, rfl, mB⟩ := hrel
    obtain ⟨wo, rfl⟩ : ∃ x, x = wr := ⟨_, rfl⟩
    clear hiso
    by_cases hlt : k < n
    · obtain ⟨b, off, e, hbB, hr⟩ := HC1.out (by omega)
      obtain ⟨b', off', e', hbB', hr'⟩ := HC2.out (by omega)
      subst e
      subst e'
      have g1 := (mB.cell (p := ⟨b, off + k, none⟩) hbB).trans (hr k hlt)
      have g2 := (mB.cell (p := ⟨b', off' + k, none⟩) hbB').trans (hr' k hlt)
      have hbo : b < wo.heap.size := Nat.lt_of_lt_of_le hbB mB.size
      have hbo' : b' < wo.heap.size := Nat.lt_of_lt_of_le hbB' mB.size
      have hp1 := ((HP1.out k hlt).below mB (fun _ h => h)).mono (R' := (· < wo.heap.size)) (fun b h => Nat.lt_of_lt_of_le h mB.size)
      have hp2 := ((HP2.out k hlt).below mB (fun _ h => h)).mono (R' := (· < wo.heap.size)) (fun b h => Nat.lt_of_lt_of_le h mB.size)
      have hbk := HB.out k hlt
      obtain ⟨hn2, ha2⟩ := HNN.out k hlt
      clear hr hr'
      have hnl := fun (w : World) (a : Option Addr) (n c : Nat) => Lib.run_eql_slice_nil (P := Try.prog) w 27 5 a n c 0 0 Try.underlying27
      generalize x1 k = y1 at *
      generalize x2 k = y2 at *
      have HN2 : Hid (y2.n = y1.n) := hn2
      have HP1' : Hid (PcIn (· < wo.heap.size) wo y1 (z k)) := hp1
      have HP2' : Hid (PcIn (· < wo.heap.size) wo y2 (z k)) := hp2
      clear hn2 hp1 hp2
      obtain ⟨ya, yn, yc⟩ := y1
      obtain ⟨ua, un, uc⟩ := y2
      simp only at ha2 hbk
      unfold Pc.v at g1 g2
      simp only at g1 g2
      cases ya with
      | none =>
        obtain rfl : ua = none := ha2.2 rfl
        clear ha2
        go_wp2_with (fail)
        refine wp_region_held_drew (S := fun w' => Below wo.heap.size wo w') (by kernel_rfl) (Below.refl _ _).drew (fun hHeld => ?_)
        refine takeV 0 24 _ rfl rfl (by kernel_rfl) (by kernel_rfl) (by kernel_rfl) (fun _ _ _ h => h) (by rfl) (fun wS hS => by (go_simp <;> with_reducible rfl)) hHeld ?_
        simp only [List.setIfInBounds_toArray, List.set_cons_zero, List.set_cons_succ]
        refine takeV 1 25 _ rfl rfl (by kernel_rfl) (by kernel_rfl) (by kernel_rfl) (fun _ _ _ h => h) (by rfl) (fun wS hS => by (go_simp <;> with_reducible rfl)) hHeld ?_
        simp only [List.setIfInBounds_toArray, List.set_cons_zero, List.set_cons_succ]
        refine takeV 2 26 _ rfl rfl (by kernel_rfl) (by kernel_rfl) (by kernel_rfl) (fun _ _ _ h => h) (by rfl) (fun wS hS => by (go_simp <;> with_reducible rfl)) hHeld ?_
        simp only [List.setIfInBounds_toArray, List.set_cons_zero, List.set_cons_succ]
        refine takeV 3 27 _ rfl rfl (by kernel_rfl) (by kernel_rfl) (by kernel_rfl) (fun _ _ _ h => h) (by rfl) (fun wS hS => by have hcl := (hS.cell (p := ⟨b, off + k, none⟩) hbo).trans g1; (go_simp <;> with_reducible rfl)) hHeld ?_
        simp only [List.setIfInBounds_toArray, List.set_cons_zero, List.set_cons_succ]
        refine takeV 4 28 (.bool true) rfl rfl (by kernel_rfl) (by kernel_rfl) (by kernel_rfl) (fun _ _ _ h => h) (by rfl) (fun wS hS => by go_simp) hHeld ?_
        simp only [List.setIfInBounds_toArray, List.set_cons_zero, List.set_cons_succ]
        refine takeV 5 29 _ rfl rfl (by kernel_rfl) (by kernel_rfl) (by kernel_rfl) (fun _ _ _ h => h) (by rfl) (fun wS hS => by (go_simp <;> with_reducible rfl)) hHeld ?_
        simp only [List.setIfInBounds_toArray, List.set_cons_zero, List.set_cons_succ]
        refine takeV 6 30 _ rfl rfl (by kernel_rfl) (by kernel_rfl) (by kernel_rfl) (fun _ _ _ h => h) (by rfl) (fun wS hS => by (go_simp <;> with_reducible rfl)) hHeld ?_
        simp only [List.setIfInBounds_toArray, List.set_cons_zero, List.set_cons_succ]
        refine takeV 7 31 _ rfl rfl (by kernel_rfl) (by kernel_rfl) (by kernel_rfl) (fun _ _ _ h => h) (by rfl) (fun wS hS => by (go_simp <;> with_reducible rfl)) hHeld ?_
        simp only [List.setIfInBounds_toArray, List.set_cons_zero, List.set_cons_succ]
        refine takeV 8 32 _ rfl rfl (by kernel_rfl) (by kernel_rfl) (by kernel_rfl) (fun _ _ _ h => h) (by rfl) (fun wS hS => by have hcl := (hS.cell (p := ⟨b', off' + k, none⟩) hbo').trans g2; (go_simp <;> with_reducible rfl)) hHeld ?_
        simp only [List.setIfInBounds_toArray, List.set_cons_zero, List.set_cons_succ]
        refine takeV 9 33 (.bool true) rfl rfl (by kernel_rfl) (by kernel_rfl) (by kernel_rfl) (fun _ _ _ h => h) (by rfl) (fun wS hS => by go_simp) hHeld ?_
        simp only [List.setIfInBounds_toArray, List.set_cons_zero, List.set_cons_succ]
        refine takeV 10 34 (.bool false) rfl rfl (by kernel_rfl) (by kernel_rfl) (by kernel_rfl) (fun _ _ _ h => h) (by rfl) (fun wS hS => by go_simp) hHeld ?_
        simp only [List.setIfInBounds_toArray, List.set_cons_zero, List.set_cons_succ]
        refine takeV 11 35 _ rfl rfl (by kernel_rfl) (by kernel_rfl) (by kernel_rfl) (fun _ _ _ h => h) (by rfl) (fun wS hS => by (go_simp <;> with_reducible rfl)) hHeld ?_
        simp only [List.setIfInBounds_toArray, List.set_cons_zero, List.set_cons_succ]
        refine takeV 12 36 _ rfl rfl (by kernel_rfl) (by kernel_rfl) (by kernel_rfl) (fun _ _ _ h => h) (by rfl) (fun wS hS => by (go_simp <;> with_reducible rfl)) hHeld ?_
        simp only [List.setIfInBounds_toArray, List.set_cons_zero, List.set_cons_succ]
        refine takeV 13 37 _ rfl rfl (by kernel_rfl) (by kernel_rfl) (by kernel_rfl) (fun _ _ _ h => h) (by rfl) (fun wS hS => by (go_simp <;> with_reducible rfl)) hHeld ?_
        simp only [List.setIfInBounds_toArray, List.set_cons_zero, List.set_cons_succ]
        refine takeV 14 38 _ rfl rfl (by kernel_rfl) (by kernel_rfl) (by kernel_rfl) (fun _ _ _ h => h) (by rfl) (fun wS hS => by (go_simp <;> with_reducible rfl)) hHeld ?_
        simp only [List.setIfInBounds_toArray, List.set_cons_zero, List.set_cons_succ]
        refine takeV 15 39 _ rfl rfl (by kernel_rfl) (by kernel_rfl) (by kernel_rfl) (fun _ _ _ h => h) (by rfl) (fun wS hS => by have hcl := (hS.cell (p := ⟨b, off + k, none⟩) hbo).trans g1; (go_simp <;> with_reducible rfl)) hHeld ?_
        simp only [List.setIfInBounds_toArray, List.set_cons_zero, List.set_cons_succ]
        refine takeV 16 40 _ rfl rfl (by kernel_rfl) (by kernel_rfl) (by kernel_rfl) (fun _ _ _ h => h) (by rfl) (fun wS hS => by (go_simp <;> with_reducible rfl)) hHeld ?_
        simp only [List.setIfInBounds_toArray, List.set_cons_zero, List.set_cons_succ]
        refine takeV 17 41 _ rfl rfl (by kernel_rfl) (by kernel_rfl) (by kernel_rfl) (fun _ _ _ h => h) (by rfl) (fun wS hS => by (go_simp <;> with_reducible rfl)) hHeld ?_
        simp only [List.setIfInBounds_toArray, List.set_cons_zero, List.set_cons_succ]
        refine takeV 18 42 _ rfl rfl (by kernel_rfl) (by kernel_rfl) (by kernel_rfl) (fun _ _ _ h => h) (by rfl) (fun wS hS => by (go_simp <;> with_reducible rfl)) hHeld ?_
        simp only [List.setIfInBounds_toArray, List.set_cons_zero, List.set_cons_succ]
        refine takeV 19 43 _ rfl rfl (by kernel_rfl) (by kernel_rfl) (by kernel_rfl) (fun _ _ _ h => h) (by rfl) (fun wS hS => by have hcl := (hS.cell (p := ⟨b', off' + k, none⟩) hbo').trans g2; (go_simp <;> with_reducible rfl)) hHeld ?_
        simp only [List.setIfInBounds_toArray, List.set_cons_zero, List.set_cons_succ]
        refine goOne 20 (by kernel_rfl) rfl (by rfl) (fun K hK => ?_)
        go_simp
        refine (sameBytes_any ⟨none, yn, yc⟩ ⟨none, un, uc⟩ (z k) wo.drew HP1'.out HP2'.out HN2.out hbk).mono ?_
        rintro e w2 ⟨rfl, hb2⟩
        have hh2 : Below wo.heap.size wo w2 := hHeld.trans hb2
        refine hK.out _ _ hh2 (fun hX => ?_)
        clear hK K hX
        replace hHeld := hh2
        refine takeV 21 45 (.bool false) rfl rfl (by kernel_rfl) (by kernel_rfl) (by kernel_rfl) (fun _ _ _ h => h) (by rfl) (fun wS hS => by go_simp) hHeld ?_
        simp only [List.setIfInBounds_toArray, List.set_cons_zero, List.set_cons_succ]
        refine takeV 22 46 (.bool false) rfl rfl (by kernel_rfl) (by kernel_rfl) (by kernel_rfl) (fun _ _ _ h => h) (by rfl) (fun wS hS => by go_simp) hHeld ?_
        simp only [List.setIfInBounds_toArray, List.set_cons_zero, List.set_cons_succ]
        refine wpAnyH_done (by kernel_rfl) ?_ _
        clear hb2 hh2 hnl
        go_wp2_with (fail)
        refine ⟨?_, ?measure⟩
        apply Exists.intro
        (repeat apply Exists.intro)
        refine ⟨?rel, rfl⟩
        case rel => exact ⟨k + 1, by omega, by go_num, mB.trans (hHeld.mono mB.size)⟩
        case measure => simp [intOf]; omega
      | some ya =>
        cases ua with
        | none => exact absurd (ha2.1 rfl) (by simp)
        | some ua =>
          clear ha2
          go_wp2_with (fail)
          refine wp_region_held_drew (S := fun w' => Below wo.heap.size wo w') (by kernel_rfl) (Below.refl _ _).drew (fun hHeld => ?_)
          refine takeV 0 24 _ rfl rfl (by kernel_rfl) (by kernel_rfl) (by kernel_rfl) (fun _ _ _ h => h) (by rfl) (fun wS hS => by (go_simp <;> with_reducible rfl)) hHeld ?_
          simp only [List.setIfInBounds_toArray, List.set_cons_zero, List.set_cons_succ]
          refine takeV 1 25 _ rfl rfl (by kernel_rfl) (by kernel_rfl) (by kernel_rfl) (fun _ _ _ h => h) (by rfl) (fun wS hS => by (go_simp <;> with_reducible rfl)) hHeld ?_
          simp only [List.setIfInBounds_toArray, List.set_cons_zero, List.set_cons_succ]
          refine takeV 2 26 _ rfl rfl (by kernel_rfl) (by kernel_rfl) (by kernel_rfl) (fun _ _ _ h => h) (by rfl) (fun wS hS => by (go_simp <;> with_reducible rfl)) hHeld ?_
          simp only [List.setIfInBounds_toArray, List.set_cons_zero, List.set_cons_succ]
          refine takeV 3 27 _ rfl rfl (by kernel_rfl) (by kernel_rfl) (by kernel_rfl) (fun _ _ _ h => h) (by rfl) (fun wS hS => by have hcl := (hS.cell (p := ⟨b, off + k, none⟩) hbo).trans g1; (go_simp <;> with_reducible rfl)) hHeld ?_
          simp only [List.setIfInBounds_toArray, List.set_cons_zero, List.set_cons_succ]
          refine takeV 4 28 (.bool false) rfl rfl (by kernel_rfl) (by kernel_rfl) (by kernel_rfl) (fun _ _ _ h => h) (by rfl) (fun wS hS => by go_simp) hHeld ?_
          simp only [List.setIfInBounds_toArray, List.set_cons_zero, List.set_cons_succ]
          refine takeV 5 29 _ rfl rfl (by kernel_rfl) (by kernel_rfl) (by kernel_rfl) (fun _ _ _ h => h) (by rfl) (fun wS hS => by (go_simp <;> with_reducible rfl)) hHeld ?_
          simp only [List.setIfInBounds_toArray, List.set_cons_zero, List.set_cons_succ]
          refine takeV 6 30 _ rfl rfl (by kernel_rfl) (by kernel_rfl) (by kernel_rfl) (fun _ _ _ h => h) (by rfl) (fun wS hS => by (go_simp <;> with_reducible rfl)) hHeld ?_
          simp only [List.setIfInBounds_toArray, List.set_cons_zero, List.set_cons_succ]
          refine takeV 7 31 _ rfl rfl (by kernel_rfl) (by kernel_rfl) (by kernel_rfl) (fun _ _ _ h => h) (by rfl) (fun wS hS => by (go_simp <;> with_reducible rfl)) hHeld ?_
          simp only [List.setIfInBounds_toArray, List.set_cons_zero, List.set_cons_succ]
          refine takeV 8 32 _ rfl rfl (by kernel_rfl) (by kernel_rfl) (by kernel_rfl) (fun _ _ _ h => h) (by rfl) (fun wS hS => by have hcl := (hS.cell (p := ⟨b', off' + k, none⟩) hbo').trans g2; (go_simp <;> with_reducible rfl)) hHeld ?_
          simp only [List.setIfInBounds_toArray, List.set_cons_zero, List.set_cons_succ]
          refine takeV 9 33 (.bool false) rfl rfl (by kernel_rfl) (by kernel_rfl) (by kernel_rfl) (fun _ _ _ h => h) (by rfl) (fun wS hS => by go_simp) hHeld ?_
          simp only [List.setIfInBounds_toArray, List.set_cons_zero, List.set_cons_succ]
          refine takeV 10 34 (.bool false) rfl rfl (by kernel_rfl) (by kernel_rfl) (by kernel_rfl) (fun _ _ _ h => h) (by rfl) (fun wS hS => by go_simp) hHeld ?_
          simp only [List.setIfInBounds_toArray, List.set_cons_zero, List.set_cons_succ]
          refine takeV 11 35 _ rfl rfl (by kernel_rfl) (by kernel_rfl) (by kernel_rfl) (fun _ _ _ h => h) (by rfl) (fun wS hS => by (go_simp <;> with_reducible rfl)) hHeld ?_
          simp only [List.setIfInBounds_toArray, List.set_cons_zero, List.set_cons_succ]
          refine takeV 12 36 _ rfl rfl (by kernel_rfl) (by kernel_rfl) (by kernel_rfl) (fun _ _ _ h => h) (by rfl) (fun wS hS => by (go_simp <;> with_reducible rfl)) hHeld ?_
          simp only [List.setIfInBounds_toArray, List.set_cons_zero, List.set_cons_succ]
          refine takeV 13 37 _ rfl rfl (by kernel_rfl) (by kernel_rfl) (by kernel_rfl) (fun _ _ _ h => h) (by rfl) (fun wS hS => by (go_simp <;> with_reducible rfl)) hHeld ?_
          simp only [List.setIfInBounds_toArray, List.set_cons_zero, List.set_cons_succ]
          refine takeV 14 38 _ rfl rfl (by kernel_rfl) (by kernel_rfl) (by kernel_rfl) (fun _ _ _ h => h) (by rfl) (fun wS hS => by (go_simp <;> with_reducible rfl)) hHeld ?_
          simp only [List.setIfInBounds_toArray, List.set_cons_zero, List.set_cons_succ]
          refine takeV 15 39 _ rfl rfl (by kernel_rfl) (by kernel_rfl) (by kernel_rfl) (fun _ _ _ h => h) (by rfl) (fun wS hS => by have hcl := (hS.cell (p := ⟨b, off + k, none⟩) hbo).trans g1; (go_simp <;> with_reducible rfl)) hHeld ?_
          simp only [List.setIfInBounds_toArray, List.set_cons_zero, List.set_cons_succ]
          refine takeV 16 40 _ rfl rfl (by kernel_rfl) (by kernel_rfl) (by kernel_rfl) (fun _ _ _ h => h) (by rfl) (fun wS hS => by (go_simp <;> with_reducible rfl)) hHeld ?_
          simp only [List.setIfInBounds_toArray, List.set_cons_zero, List.set_cons_succ]
          refine takeV 17 41 _ rfl rfl (by kernel_rfl) (by kernel_rfl) (by kernel_rfl) (fun _ _ _ h => h) (by rfl) (fun wS hS => by (go_simp <;> with_reducible rfl)) hHeld ?_
          simp only [List.setIfInBounds_toArray, List.set_cons_zero, List.set_cons_succ]
          refine takeV 18 42 _ rfl rfl (by kernel_rfl) (by kernel_rfl) (by kernel_rfl) (fun _ _ _ h => h) (by rfl) (fun wS hS => by (go_simp <;> with_reducible rfl)) hHeld ?_
          simp only [List.setIfInBounds_toArray, List.set_cons_zero, List.set_cons_succ]
          refine takeV 19 43 _ rfl rfl (by kernel_rfl) (by kernel_rfl) (by kernel_rfl) (fun _ _ _ h => h) (by rfl) (fun wS hS => by have hcl := (hS.cell (p := ⟨b', off' + k, none⟩) hbo').trans g2; (go_simp <;> with_reducible rfl)) hHeld ?_
          simp only [List.setIfInBounds_toArray, List.set_cons_zero, List.set_cons_succ]
          refine goOne 20 (by kernel_rfl) rfl (by rfl) (fun K hK => ?_)
          go_simp
          refine (sameBytes_any ⟨some ya, yn, yc⟩ ⟨some ua, un, uc⟩ (z k) wo.drew HP1'.out HP2'.out HN2.out hbk).mono ?_
          rintro e w2 ⟨rfl, hb2⟩
          have hh2 : Below wo.heap.size wo w2 := hHeld.trans hb2
          refine hK.out _ _ hh2 (fun hX => ?_)
          clear hK K hX
          replace hHeld := hh2
          refine takeV 21 45 (.bool false) rfl rfl (by kernel_rfl) (by kernel_rfl) (by kernel_rfl) (fun _ _ _ h => h) (by rfl) (fun wS hS => by go_simp) hHeld ?_
          simp only [List.setIfInBounds_toArray, List.set_cons_zero, List.set_cons_succ]
          refine takeV 22 46 (.bool false) rfl rfl (by kernel_rfl) (by kernel_rfl) (by kernel_rfl) (fun _ _ _ h => h) (by rfl) (fun wS hS => by go_simp) hHeld ?_
          simp only [List.setIfInBounds_toArray, List.set_cons_zero, List.set_cons_succ]
          refine wpAnyH_done (by kernel_rfl) ?_ _
          clear hb2 hh2 hnl
          go_wp2_with (fail)
          refine ⟨?_, ?measure⟩
          apply Exists.intro
          (repeat apply Exists.intro)
          refine ⟨?rel, rfl⟩
          case rel => exact ⟨k + 1, by omega, by go_num, mB.trans (hHeld.mono mB.size)⟩
          case measure => simp [intOf]; omega
    · obtain rfl : k = n := by omega
      go_wp2_with (fail)
      go_ret
      exact ⟨rfl, mB⟩
end Go.Proofs.Qxb6602723a
