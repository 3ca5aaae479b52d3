/-
  FnCommitListAddLaysOutEveryCommit, walked.
-/
import Derived.Test.Qxb6604526aHolds
namespace Go.Proofs.Qxb6604526a
open Go.RowKit

theorem ComsIn.mono {R R' : Nat → Prop} {w : World} {v : Value} {n : Nat} {c : Nat → Com} (h : ComsIn R w v n c) (hR : ∀ b, R b → R' b) : ComsIn R' w v n c := by
  obtain ⟨ao, cap, h1, h2, h3⟩ := h
  refine ⟨ao, cap, h1, h2, fun h0 => ?_⟩
  obtain ⟨b, off, e, hb, hr⟩ := h3 h0
  refine ⟨b, off, e, hR b hb, fun i hi => ?_⟩
  obtain ⟨pv, q1, q2⟩ := hr i hi
  exact ⟨pv, q1, q2.mono hR⟩
/-- The empty list. -/
theorem LIs.init (w : World) (c : Nat → Com) : LIs w.heap.size (w.heap.size + 1) (w.alloc (.cells #[.slice none 0 0, .slice none 0 0, .slice none 0 0, .slice none 0 0] 48)) (.slice none 0 0) (.slice none 0 0) (.slice none 0 0) (.slice none 0 0) 0 0 (sumNp c 0) 0 (flatIds c 0) (flatComs c 0) (flatPs c 0) (flatSpans c 0) where
  cells := heap_alloc_new w _
  o0 := World.ownsRow_nil _ _ _ _
  o1 := World.ownsRow_nil _ _ _ _
  o2 := World.ownsRow_nil _ _ _ _
  o3 := World.ownsRow_nil _ _ _ _
  apart := Or.inl rfl
  lt := by omega
  base := by simp
/-- The list of the first k commits. -/
def Lk (bl : Nat) (w : World) (k : Nat) (c : Nat → Com) : Prop := ∃ v0 v1 v2 v3, LIs bl (bl + 1) w v0 v1 v2 v3 k k (sumNp c k) k (flatIds c k) (flatComs c k) (flatPs c k) (flatSpans c k)

set_option maxRecDepth 10000 in
set_option maxHeartbeats 4000000 in
/-- The whole function: it answers true. -/
theorem lays_any (v : Value) (n : Nat) (c : Nat → Com) (w : World) (hv : ComsIn (· < w.heap.size) w v n c) (hn : n ≤ 9223372036854775807)
    (hok : ∀ i, i < n → (c i).np ≤ 9223372036854775807 ∧ IdOk (c i).id ∧ IdOk (c i).tree ∧ ∀ j, j < (c i).np → IdOk ((c i).p j)) :
    Calls Try.prog 6 #[v] w fun e w' => e = .returned (.bool true) ∧ Below w.heap.size w w' := by
  obtain ⟨aov, capv, rfl, hvr⟩ := hv
  have hv : ComsIn (· < w.heap.size) w (.slice aov n capv) n c := ⟨aov, capv, rfl, hvr⟩
  clear hvr
  have HV : Hid (ComsIn (· < w.heap.size) w (.slice aov n capv) n c) := hv
  have HN : Hid (n ≤ 9223372036854775807) := hn
  have HO : Hid (∀ i, i < n → (c i).np ≤ 9223372036854775807 ∧ IdOk (c i).id ∧ IdOk (c i).tree ∧ ∀ j, j < (c i).np → IdOk ((c i).p j)) := hok
  clear hv hn hok
  go_enter Try.func6, Try.ntmps6
  go_wp2_with (fail)
  refine (zzBytesA_any _ n c w HV.out HN.out (fun i hi => (HO.out i hi).1)).mono ?_
  rintro e w1 ⟨⟨b1, rfl⟩, hb1⟩
  cases b1 with
  | false =>
    go_wp2_with (fail)
    go_ret
    exact ⟨rfl, hb1⟩
  | true =>
    have HV1 : Hid (ComsIn (· < w1.heap.size) w1 (.slice aov n capv) n c) := (HV.out.below hb1 (fun _ h => h)).mono (fun b h => Nat.lt_of_lt_of_le h hb1.size)
    go_wp2_with (fail)
    refine (comBytes_any _ n c w1 HV1.out HN.out (fun i hi => (HO.out i hi).1)).mono ?_
    rintro e w2 ⟨⟨r, rfl, hr⟩, rfl⟩
    by_cases hbig : r ≤ 1048576
    · obtain ⟨hn0, hsum⟩ := hr hbig
      have hn1 : (n : Int) ≤ 65536 := by omega
      have hs1 : (sumNp c n : Int) ≤ 1048576 := by omega
      have HH : Hid (r ≤ 1048576) := hbig
      clear hr hn0 hsum
      go_wp2_with (fail)
      refine (comsOK_any _ n c w2 HV1.out HN.out HO.out).mono ?_
      rintro e w3 ⟨⟨b3, rfl⟩, hb3⟩
      have l3 := hb1.trans (hb3.mono hb1.size)
      cases b3 with
      | false =>
        go_wp2_with (fail)
        go_ret
        exact ⟨rfl, l3⟩
      | true =>
        have HV3 : Hid (ComsIn (· < w3.heap.size) w3 (.slice aov n capv) n c) := (HV1.out.below hb3 (fun _ h => h)).mono (fun b h => Nat.lt_of_lt_of_le h hb3.size)
        clear hb1 hb3 HV1
        have HNP : Hid (∀ i, i < n → sumNp c i + (c i).np ≤ sumNp c n) := fun i hi => sumNp_le c (show i + 1 ≤ n by omega)
        go_wp2_with (fail)
        refine (cloneComs_any _ n c w3 HV3.out hn1 (fun i hi => by have := HNP.out i hi; omega)).mono ?_
        rintro e w4 ⟨v', rfl, hcl, hb4⟩
        obtain ⟨ao, cap, rfl, hcr⟩ := hcl
        have hcl : ComsIn (fun b => w3.heap.size ≤ b ∧ b < w4.heap.size) w4 (.slice ao n cap) n c := ⟨ao, cap, rfl, hcr⟩
        clear hcr
        have l4 := l3.trans (hb4.mono l3.size)
        have HC : Hid (ComsIn (· < w4.heap.size) w4 (.slice ao n cap) n c) := hcl.mono (fun b h => h.2)
        clear hb4 l3 HV3 hcl
        go_wp2_with (fail)
        have h0L : Lk w4.heap.size (w4.alloc (.cells #[.slice none 0 0, .slice none 0 0, .slice none 0 0, .slice none 0 0] 48)) 0 c := ⟨_, _, _, _, LIs.init w4 c⟩
        have h0B : Below w4.heap.size w4 (w4.alloc (.cells #[.slice none 0 0, .slice none 0 0, .slice none 0 0, .slice none 0 0] 48)) := (Below.refl _ _).alloc (Nat.le_refl _) _
        go_loopw [4] (fun i wr => ∃ k : Nat, k ≤ n ∧ i = .int .i64 k ∧ Lk w4.heap.size wr k c ∧ Below w4.heap.size w4 wr) (fun i _ => n - (intOf i).toNat)
        case atStart => exact ⟨0, by omega, rfl, h0L, h0B⟩
        case round =>
          obtain ⟨k, hk, rfl, hL, mB⟩ := hrel
          clear h0L h0B
          by_cases hlt : k < n
          · obtain ⟨ao0, cap0, e0, _, hcs⟩ := HC.out
            obtain ⟨rfl, rfl⟩ : ao = ao0 ∧ cap = cap0 := by simpa using e0
            obtain ⟨b, off, e, hbB, hrow⟩ := hcs (by omega)
            subst e
            obtain ⟨pv, hr, hp⟩ := hrow k hlt
            have hpw : IdsIn (· < w4.heap.size) w4 pv (c k).np (c k).p := hp
            obtain ⟨ao', cap', hpv, hpn⟩ := hp
            subst hpv
            obtain ⟨v0, v1, v2, v3, hLI⟩ := hL
            have HLI : Hid (LIs w4.heap.size (w4.heap.size + 1) wr v0 v1 v2 v3 k k (sumNp c k) k (flatIds c k) (flatComs c k) (flatPs c k) (flatSpans c k)) := hLI
            have hnpk := HNP.out k hlt
            have hsk := sumNp_le c hk
            clear hcs hrow hpn hLI
            go_wp2_with (fail)
            refine wp_region_held_drew (S := fun w' => Below w4.heap.size w4 w') (by kernel_rfl) mB.drew (fun hHeld => ?_)
            refine takeV 0 22 _ rfl rfl (by kernel_rfl) (by kernel_rfl) (by kernel_rfl) (fun _ _ _ h => h) (by rfl) (fun wS hS => by (go_simp <;> with_reducible rfl)) hHeld ?_
            simp only [List.setIfInBounds_toArray, List.set_cons_zero, List.set_cons_succ]
            refine takeV 1 23 _ rfl rfl (by kernel_rfl) (by kernel_rfl) (by kernel_rfl) (fun _ _ _ h => h) (by rfl) (fun wS hS => by (go_simp <;> with_reducible rfl)) hHeld ?_
            simp only [List.setIfInBounds_toArray, List.set_cons_zero, List.set_cons_succ]
            refine takeV 2 24 _ rfl rfl (by kernel_rfl) (by kernel_rfl) (by kernel_rfl) (fun _ _ _ h => h) (by rfl) (fun wS hS => by (go_simp <;> with_reducible rfl)) hHeld ?_
            simp only [List.setIfInBounds_toArray, List.set_cons_zero, List.set_cons_succ]
            refine takeV 3 25 _ rfl rfl (by kernel_rfl) (by kernel_rfl) (by kernel_rfl) (fun _ _ _ h => h) (by rfl) (fun wS hS => by (go_simp <;> with_reducible rfl)) hHeld ?_
            simp only [List.setIfInBounds_toArray, List.set_cons_zero, List.set_cons_succ]
            refine takeL 4 26 rfl rfl 53 _ rfl _ _ rfl _ _ (by kernel_rfl) (by kernel_rfl) (by kernel_rfl) (fun _ _ _ h => h) (by rfl) (fun wS hS => rangeAt_below (com_id hr) hS hbB) Try.underlying53 rfl (Try.sizeL53 _) hHeld ?_
            simp only [List.setIfInBounds_toArray, List.set_cons_zero, List.set_cons_succ]
            refine takeV 6 28 _ rfl rfl (by kernel_rfl) (by kernel_rfl) (by kernel_rfl) (fun _ _ _ h => h) (by rfl) (fun wS hS => by (go_simp <;> with_reducible rfl)) hHeld ?_
            simp only [List.setIfInBounds_toArray, List.set_cons_zero, List.set_cons_succ]
            refine takeV 7 29 _ rfl rfl (by kernel_rfl) (by kernel_rfl) (by kernel_rfl) (fun _ _ _ h => h) (by rfl) (fun wS hS => by (go_simp <;> with_reducible rfl)) hHeld ?_
            simp only [List.setIfInBounds_toArray, List.set_cons_zero, List.set_cons_succ]
            refine takeV 8 30 _ rfl rfl (by kernel_rfl) (by kernel_rfl) (by kernel_rfl) (fun _ _ _ h => h) (by rfl) (fun wS hS => by (go_simp <;> with_reducible rfl)) hHeld ?_
            simp only [List.setIfInBounds_toArray, List.set_cons_zero, List.set_cons_succ]
            refine takeV 9 31 _ rfl rfl (by kernel_rfl) (by kernel_rfl) (by kernel_rfl) (fun _ _ _ h => h) (by rfl) (fun wS hS => by (go_simp <;> with_reducible rfl)) hHeld ?_
            simp only [List.setIfInBounds_toArray, List.set_cons_zero, List.set_cons_succ]
            refine takeL 10 32 rfl rfl 53 _ rfl _ _ rfl _ _ (by kernel_rfl) (by kernel_rfl) (by kernel_rfl) (fun _ _ _ h => h) (by rfl) (fun wS hS => rangeAt_below (com_tree hr) hS hbB) Try.underlying53 rfl (Try.sizeL53 _) hHeld ?_
            simp only [List.setIfInBounds_toArray, List.set_cons_zero, List.set_cons_succ]
            refine takeV 12 34 _ rfl rfl (by kernel_rfl) (by kernel_rfl) (by kernel_rfl) (fun _ _ _ h => h) (by rfl) (fun wS hS => by (go_simp <;> with_reducible rfl)) hHeld ?_
            simp only [List.setIfInBounds_toArray, List.set_cons_zero, List.set_cons_succ]
            refine takeV 13 35 _ rfl rfl (by kernel_rfl) (by kernel_rfl) (by kernel_rfl) (fun _ _ _ h => h) (by rfl) (fun wS hS => by (go_simp <;> with_reducible rfl)) hHeld ?_
            simp only [List.setIfInBounds_toArray, List.set_cons_zero, List.set_cons_succ]
            refine takeV 14 36 _ rfl rfl (by kernel_rfl) (by kernel_rfl) (by kernel_rfl) (fun _ _ _ h => h) (by rfl) (fun wS hS => by (go_simp <;> with_reducible rfl)) hHeld ?_
            simp only [List.setIfInBounds_toArray, List.set_cons_zero, List.set_cons_succ]
            refine takeV 15 37 _ rfl rfl (by kernel_rfl) (by kernel_rfl) (by kernel_rfl) (fun _ _ _ h => h) (by rfl) (fun wS hS => by (go_simp <;> with_reducible rfl)) hHeld ?_
            simp only [List.setIfInBounds_toArray, List.set_cons_zero, List.set_cons_succ]
            refine takeV 16 38 _ rfl rfl (by kernel_rfl) (by kernel_rfl) (by kernel_rfl) (fun _ _ _ h => h) (by rfl) (fun wS hS => by have hcl := (hS.cell (p := ⟨b, off + k * 68 + 66, none⟩) hbB).trans (com_pv hr); (go_simp <;> with_reducible rfl)) hHeld ?_
            simp only [List.setIfInBounds_toArray, List.set_cons_zero, List.set_cons_succ]
            refine takeV 18 40 _ rfl rfl (by kernel_rfl) (by kernel_rfl) (by kernel_rfl) (fun _ _ _ h => h) (by rfl) (fun wS hS => by (go_simp <;> with_reducible rfl)) hHeld ?_
            simp only [List.setIfInBounds_toArray, List.set_cons_zero, List.set_cons_succ]
            refine takeV 19 41 _ rfl rfl (by kernel_rfl) (by kernel_rfl) (by kernel_rfl) (fun _ _ _ h => h) (by rfl) (fun wS hS => by (go_simp <;> with_reducible rfl)) hHeld ?_
            simp only [List.setIfInBounds_toArray, List.set_cons_zero, List.set_cons_succ]
            refine takeV 20 42 _ rfl rfl (by kernel_rfl) (by kernel_rfl) (by kernel_rfl) (fun _ _ _ h => h) (by rfl) (fun wS hS => by (go_simp <;> with_reducible rfl)) hHeld ?_
            simp only [List.setIfInBounds_toArray, List.set_cons_zero, List.set_cons_succ]
            refine takeV 21 43 _ rfl rfl (by kernel_rfl) (by kernel_rfl) (by kernel_rfl) (fun _ _ _ h => h) (by rfl) (fun wS hS => by (go_simp <;> with_reducible rfl)) hHeld ?_
            simp only [List.setIfInBounds_toArray, List.set_cons_zero, List.set_cons_succ]
            refine takeV 22 44 _ rfl rfl (by kernel_rfl) (by kernel_rfl) (by kernel_rfl) (fun _ _ _ h => h) (by rfl) (fun wS hS => by have hcl := (hS.cell (p := ⟨b, off + k * 68 + 67, none⟩) hbB).trans (com_time hr); (go_simp <;> with_reducible rfl)) hHeld ?_
            simp only [List.setIfInBounds_toArray, List.set_cons_zero, List.set_cons_succ]
            have HLd := HLI.out.drew
            refine goOne 5 (by kernel_rfl) rfl (by rfl) (fun K hK => ?_)
            go_simp
            refine (id_any _ _).mono ?_
            rintro e w5 ⟨rfl, hb5⟩
            have hg5 : Below wr.heap.size wr w5 := (Below.refl _ _).drew.trans hb5
            have h5 : Below w4.heap.size w4 w5 := mB.trans (hg5.mono mB.size)
            refine hK.out _ _ h5 (fun hX => ?_)
            clear hK K hX hb5
            replace hHeld := h5
            refine goOne 11 (by kernel_rfl) rfl (by rfl) (fun K hK => ?_)
            go_simp
            refine (id_any _ _).mono ?_
            rintro e w6 ⟨rfl, hb6⟩
            have hg6 : Below wr.heap.size wr w6 := hg5.trans (hb6.mono hg5.size)
            have h6 : Below w4.heap.size w4 w6 := mB.trans (hg6.mono mB.size)
            refine hK.out _ _ h6 (fun hX => ?_)
            clear hK K hX hb6
            replace hHeld := h6
            clear hg5 h5
            clear w5
            refine goOne 17 (by kernel_rfl) rfl (by rfl) (fun K hK => ?_)
            go_simp
            refine (ids_any _ _ _ w6 ((hpw.below h6 (fun _ h => h)).mono (fun b h => Nat.lt_of_lt_of_le h h6.size)) (by omega)).mono ?_
            rintro e w7 ⟨vi, rfl, hid, hb7⟩
            have hg7 : Below wr.heap.size wr w7 := hg6.trans (hb7.mono hg6.size)
            have h7 : Below w4.heap.size w4 w7 := mB.trans (hg7.mono mB.size)
            refine hK.out _ _ h7 (fun hX => ?_)
            clear hK K hX hb7
            replace hHeld := h7
            replace hid := hid.mono (fun b h => h.2)
            clear hg6 h6
            clear w6
            refine goOne 23 (by kernel_rfl) rfl (by rfl) (fun K hK => ?_)
            go_simp
            refine (listAdd_any _ _ (c k) vi w7 _ _ _ _ _ _ _ _ _ _ _ _ (HLI.out.grown hg7) hid (by omega) (by omega) (by omega) (by omega)).mono ?_
            rintro e w8 ⟨rfl, ⟨u0, u1, u2, u3, hL8⟩, hb8⟩
            have h8 : Below w4.heap.size w4 w8 := h7.trans hb8
            refine hK.out _ _ h8 (fun hX => ?_)
            clear hK K hX hb8 hHeld
            have hLk : Lk w4.heap.size w8 (k + 1) c := ⟨u0, u1, u2, u3, hL8⟩
            clear hL8 HLd hid hg7 h7
            refine wpAnyH_done (by kernel_rfl) ?_ _
            go_wp2_with (fail)
            go_roundw
            case rel => exact ⟨k + 1, by omega, by go_num, hLk, h8⟩
            case measure => simp [intOf]; omega
          · have hkn : k = n := by omega
            subst hkn
            obtain ⟨v0, v1, v2, v3, hLI⟩ := hL
            have HLI : Hid (LIs w4.heap.size (w4.heap.size + 1) wr v0 v1 v2 v3 k k (sumNp c k) k (flatIds c k) (flatComs c k) (flatPs c k) (flatSpans c k)) := hLI
            clear hLI
            go_wp2_with (fail)
            refine (holds_any _ _ _ k c wr _ _ _ _ HLI.out ((HC.out.below mB (fun _ h => h)).mono (fun b h => Nat.lt_of_lt_of_le h mB.size)) hn1 hs1).mono ?_
            rintro e w9 ⟨rfl, hb9⟩
            have l9 := l4.trans ((mB.trans (hb9.mono mB.size)).mono l4.size)
            clear hb9
            go_wp2_with (fail)
            go_ret
            exact ⟨rfl, l9⟩
    · clear hr
      go_wp2_with (fail)
      go_ret
      exact ⟨rfl, hb1⟩
end Go.Proofs.Qxb6604526a
