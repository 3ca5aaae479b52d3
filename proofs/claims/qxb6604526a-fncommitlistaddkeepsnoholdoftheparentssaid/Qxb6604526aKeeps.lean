/-
  FnCommitListAddKeepsNoHoldOfTheParents, walked.
-/
import Derived.Test.Qxb6604526aLays
namespace Go.Proofs.Qxb6604526a
open Go.RowKit

/-- A store into a block below the list's head leaves the list. -/
theorem LIs.setCell {bl base g : Nat} {w : World} {v0 v1 v2 v3 : Value} {n0 n1 n2 n3 : Nat} {x0 x1 x2 x3 : List Value} (h : LIs bl base w v0 v1 v2 v3 n0 n1 n2 n3 x0 x1 x2 x3) (hg : g < bl) (o : Nat) (u : Value) : LIs bl base (w.setCell ⟨g, o, none⟩ u) v0 v1 v2 v3 n0 n1 n2 n3 x0 x1 x2 x3 :=
  have hb : g < base := Nat.lt_trans hg h.lt
  { cells := (heap_setCell_other w ⟨g, o, none⟩ bl u (by simp; omega)).trans h.cells
    o0 := ownsRow_setCell_below h.o0 hb _, o1 := ownsRow_setCell_below h.o1 hb _, o2 := ownsRow_setCell_below h.o2 hb _, o3 := ownsRow_setCell_below h.o3 hb _, apart := h.apart, lt := h.lt, base := by have := h.base; simpa [World.setCell] using this }
theorem LIs.setCells {bl base g : Nat} {v0 v1 v2 v3 : Value} {n0 n1 n2 n3 : Nat} {x0 x1 x2 x3 : List Value} (hg : g < bl) : ∀ (vs : List Value) (o : Nat) (w : World), LIs bl base w v0 v1 v2 v3 n0 n1 n2 n3 x0 x1 x2 x3 → LIs bl base (w.setCells g o vs) v0 v1 v2 v3 n0 n1 n2 n3 x0 x1 x2 x3
  | [], _, _, h => h
  | v :: r, o, _, h => LIs.setCells hg r (o + 1) _ (h.setCell hg o v)
theorem Lk.setCells {bl g k : Nat} {w : World} {c : Nat → Com} (h : Lk bl w k c) (hg : g < bl) (o : Nat) (vs : List Value) : Lk bl (w.setCells g o vs) k c := by
  obtain ⟨v0, v1, v2, v3, h⟩ := h
  exact ⟨v0, v1, v2, v3, LIs.setCells hg vs o w h⟩
theorem Lk.grown {bl k : Nat} {w w' : World} {c : Nat → Com} (h : Lk bl w k c) (hb : Below w.heap.size w w') : Lk bl w' k c := by
  obtain ⟨v0, v1, v2, v3, h⟩ := h
  exact ⟨v0, v1, v2, v3, h.grown hb⟩
theorem Lk.lt {bl k : Nat} {w : World} {c : Nat → Com} (h : Lk bl w k c) : bl < w.heap.size := by
  obtain ⟨v0, v1, v2, v3, h⟩ := h
  exact Nat.lt_of_lt_of_le h.lt h.base

set_option maxRecDepth 10000 in
set_option maxHeartbeats 4000000 in
/-- The whole function: it answers true. -/
theorem keeps_any (v : Value) (n : Nat) (c : Nat → Com) (junk : Nat → Int) (w : World) (hv : ComsIn (· < w.heap.size) w v n c) (hn : n ≤ 9223372036854775807)
    (hok : ∀ i, i < n → (c i).np ≤ 9223372036854775807 ∧ IdOk (c i).id ∧ IdOk (c i).tree ∧ ∀ j, j < (c i).np → IdOk ((c i).p j)) (hjk : IdOk junk) :
    Calls Try.prog 7 #[v, .agg (row 33 junk)] w fun e w' => e = .returned (.bool true) ∧ Below w.heap.size w w' := by
  obtain ⟨aov, capv, rfl, hvr⟩ := hv
  have hv : ComsIn (· < w.heap.size) w (.slice aov n capv) n c := ⟨aov, capv, rfl, hvr⟩
  clear hvr
  obtain ⟨w0, hw0⟩ : ∃ w0, w0 = w.alloc (.cells (row 33 junk) 53) := ⟨_, rfl⟩
  have l0 : Below w.heap.size w w0 := by rw [hw0]; exact (Below.refl _ _).alloc (Nat.le_refl _) _
  have hJ : w0.rangeAt w.heap.size 0 (rowL 33 junk) := by rw [hw0]; exact rangeAt_block (heap_alloc_new w _)
  have hsJ : w.heap.size < w0.heap.size := by rw [hw0]; simp
  have HV : Hid (ComsIn (· < w0.heap.size) w0 (.slice aov n capv) n c) := (hv.below l0 (fun _ h => h)).mono (fun b h => Nat.lt_of_lt_of_le h l0.size)
  have HN : Hid (n ≤ 9223372036854775807) := hn
  have HO : Hid (∀ i, i < n → (c i).np ≤ 9223372036854775807 ∧ IdOk (c i).id ∧ IdOk (c i).tree ∧ ∀ j, j < (c i).np → IdOk ((c i).p j)) := hok
  have HJ : Hid (IdOk junk) := hjk
  clear hv hn hok hjk
  have HW : Hid (w0 = w.alloc (.cells (row 33 junk) 53)) := hw0
  clear hw0
  go_enter Try.func7, Try.ntmps7
  go_wp2_with (first
    | (rw [← HW.out]; refine wpList_load_midG (by rfl) 53 _ rfl _ _ rfl _ _ hJ Try.underlying53 rfl (Try.sizeL53 _) ?_)
    | fail)
  refine (zzBytesB_any _ n c junk w0 HV.out HN.out (fun i hi => (HO.out i hi).1)).mono ?_
  rintro e w1 ⟨⟨b1, rfl⟩, hb1⟩
  replace l0 := l0.trans (hb1.mono l0.size)
  replace hJ := rangeAt_below hJ hb1 hsJ
  replace hsJ := Nat.lt_of_lt_of_le hsJ hb1.size
  clear HW
  cases b1 with
  | false =>
    clear hJ
    go_wp2_with (fail)
    go_ret
    exact ⟨rfl, l0⟩
  | true =>
    have HV1 : Hid (ComsIn (· < w1.heap.size) w1 (.slice aov n capv) n c) := (HV.out.below hb1 (fun _ h => h)).mono (fun b h => Nat.lt_of_lt_of_le h hb1.size)
    clear hb1 HV
    clear w0
    have HJr : Hid (w1.rangeAt w.heap.size 0 (rowL 33 junk)) := hJ
    clear hJ
    go_wp2_with (fail)
    refine (comBytes_any _ n c w1 HV1.out HN.out (fun i hi => (HO.out i hi).1)).mono ?_
    rintro e w2 ⟨⟨r, rfl, hr⟩, rfl⟩
    by_cases hbig : r ≤ 1048576
    · obtain ⟨hn0, hsum⟩ := hr hbig
      have hn1 : (n : Int) ≤ 65536 := by omega
      have hs1 : (sumNp c n : Int) ≤ 1048576 := by omega
      have HH : Hid (r ≤ 1048576) := hbig
      clear hr hn0 hsum
      go_wp2_with (fail)
      refine (comsOK_any _ n c w2 HV1.out HN.out HO.out).mono ?_
      rintro e w3 ⟨⟨b3, rfl⟩, hb3⟩
      have l3 := l0.trans (hb3.mono l0.size)
      cases b3 with
      | false =>
        go_wp2_with (fail)
        go_ret
        exact ⟨rfl, l3⟩
      | true =>
        have HV3 : Hid (ComsIn (· < w3.heap.size) w3 (.slice aov n capv) n c) := (HV1.out.below hb3 (fun _ h => h)).mono (fun b h => Nat.lt_of_lt_of_le h hb3.size)
        have hJ3 : w3.rangeAt w.heap.size 0 (rowL 33 junk) := rangeAt_below HJr.out hb3 hsJ
        replace hsJ := Nat.lt_of_lt_of_le hsJ hb3.size
        clear l0 hb3 HV1 HJr
        clear w2
        have HNP : Hid (∀ i, i < n → sumNp c i + (c i).np ≤ sumNp c n) := fun i hi => sumNp_le c (show i + 1 ≤ n by omega)
        go_wp2_with (first
          | (refine wpList_load_midG (by rfl) 53 _ rfl _ _ rfl _ _ hJ3 Try.underlying53 rfl (Try.sizeL53 _) ?_)
          | fail)
        refine (idOK_any junk w3 HJ.out.1 HJ.out.2).mono ?_
        rintro e wk ⟨⟨bk, rfl⟩, hbk⟩
        have lk := l3.trans (hbk.mono l3.size)
        cases bk with
        | false =>
          go_wp2_with (fail)
          go_ret
          exact ⟨rfl, lk⟩
        | true =>
          have HVk : Hid (ComsIn (· < wk.heap.size) wk (.slice aov n capv) n c) := (HV3.out.below hbk (fun _ h => h)).mono (fun b h => Nat.lt_of_lt_of_le h hbk.size)
          have hJk : wk.rangeAt w.heap.size 0 (rowL 33 junk) := rangeAt_below hJ3 hbk hsJ
          replace hsJ := Nat.lt_of_lt_of_le hsJ hbk.size
          clear hbk l3 HV3 hJ3
          clear w3
          go_wp2_with (fail)
          refine (cloneComs_any _ n c wk HVk.out hn1 (fun i hi => by have := HNP.out i hi; omega)).mono ?_
          rintro e w4 ⟨v', rfl, hcl, hb4⟩
          obtain ⟨ao, cap, rfl, hcr⟩ := hcl
          have hcl : ComsIn (fun b => wk.heap.size ≤ b ∧ b < w4.heap.size) w4 (.slice ao n cap) n c := ⟨ao, cap, rfl, hcr⟩
          clear hcr
          have l4 := lk.trans (hb4.mono lk.size)
          have HC : Hid (ComsIn (· < w4.heap.size) w4 (.slice ao n cap) n c) := hcl.mono (fun b h => h.2)
          have hJ4 : w4.rangeAt w.heap.size 0 (rowL 33 junk) := rangeAt_below hJk hb4 hsJ
          replace hsJ := Nat.lt_of_lt_of_le hsJ hb4.size
          clear hb4 lk HVk hcl hJk
          go_wp2_with (fail)
          go_loop [5, 6] (fun t i => ∃ k M : Nat, k ≤ n ∧ i = .int .i64 k ∧ t = .int .i64 M ∧ (M : Int) ≤ 1048576 ∧ ∀ j, j < k → (c j).np ≤ M) (fun _ i => n - (intOf i).toNat)
          case atStart => exact ⟨0, 0, by omega, rfl, rfl, by omega, fun j hj => absurd hj (by omega)⟩
          case round =>
            obtain ⟨k, M, hk, rfl, rfl, hM, hall⟩ := hrel
            by_cases hlt : k < n
            · obtain ⟨ao0, cap0, e0, _, hcs⟩ := HC.out
              obtain ⟨rfl, rfl⟩ : ao = ao0 ∧ cap = cap0 := by simpa using e0
              obtain ⟨b, off, e, hbB, hrow⟩ := hcs (by omega)
              subst e
              obtain ⟨pv, hr, hp⟩ := hrow k hlt
              have hpv := com_pv hr
              obtain ⟨ao', cap', rfl, _, _⟩ := hp
              have hnpk := HNP.out k hlt
              have hnp1 : ((c k).np : Int) ≤ 1048576 := by omega
              have HA : Hid (∀ j, j < k → (c j).np ≤ M) := hall
              clear hcs hrow hr hnpk hall hs1
              by_cases hgt : M < (c k).np
              · go_wp2_with (fail)
                go_round
                case rel => exact ⟨k + 1, (c k).np, by omega, by go_num, rfl, hnp1, fun j hj => by
                  by_cases ej : j = k
                  · subst ej; exact Nat.le_refl _
                  · have := HA.out j (by omega); omega⟩
                case measure => simp [intOf]; omega
              · go_wp2_with (fail)
                go_round
                case rel => exact ⟨k + 1, M, by omega, by go_num, rfl, hM, fun j hj => by
                  by_cases ej : j = k
                  · subst ej; omega
                  · exact HA.out j (by omega)⟩
                case measure => simp [intOf]; omega
            · obtain rfl : n = k := by omega
              obtain ⟨i0, hi, hz0, hz1, hz2⟩ := info_parts Try.info25
              have HA : Hid (∀ j, j < n → (c j).np ≤ M) := hall
              clear hall hk hlt
              go_wp2_with (at_make; refine wpList_make_full _ rfl _ _ 44 rfl w4.heap.size 25 i0 (.agg (row 33 fun _ => 0)) 33 Try.underlying44 hi hz0 hz1 _ _ _ _ M rfl rfl rfl rfl (by rw [hz2]; omega) (by unfold maxLen; omega) (Nat.le_refl _) ?_)
              intro w5 hown hgrow
              have ht := there_of_owns hown
              have l5 : Below w4.heap.size w4 w5 := (Below.refl _ _).grown hgrow (Nat.le_refl _) (fun k h => by cases h)
              have y5 : w4.heap.size < w5.heap.size := (hown.lt w4.heap.size rfl).2
              clear hown hgrow hi hz0 hz1 hz2
              go_wp2_with (fail)
              have h0L : Lk w5.heap.size (w5.alloc (.cells #[.slice none 0 0, .slice none 0 0, .slice none 0 0, .slice none 0 0] 48)) 0 c := ⟨_, _, _, _, LIs.init w5 c⟩
              have h0g : Below w5.heap.size w5 (w5.alloc (.cells #[.slice none 0 0, .slice none 0 0, .slice none 0 0, .slice none 0 0] 48)) := (Below.refl _ _).alloc (Nat.le_refl _) _
              have h0B := l5.trans (h0g.mono l5.size)
              have h0T := there_below ht h0g y5
              clear ht h0g l5
              go_loopw [9] (fun i wr => ∃ m : Nat, m ≤ n ∧ i = .int .i64 m ∧ Lk w5.heap.size wr m c ∧ wr.there w4.heap.size 0 (M * 33) ∧ Below w4.heap.size w4 wr) (fun i _ => n - (intOf i).toNat)
              case atStart => exact ⟨0, by omega, rfl, h0L, h0T, h0B⟩
              case round =>
                obtain ⟨m, hm, rfl, hL, hT, mB⟩ := hrel
                obtain ⟨wo, rfl⟩ : ∃ x, x = wr := ⟨_, rfl⟩
                clear h0L h0T h0B
                by_cases hlt : m < n
                · obtain ⟨ao0, cap0, e0, _, hcs⟩ := HC.out
                  obtain ⟨rfl, rfl⟩ : ao = ao0 ∧ cap = cap0 := by simpa using e0
                  obtain ⟨b, off, e, hbB, hrow⟩ := hcs (by omega)
                  subst e
                  obtain ⟨pv, hr, hp⟩ := hrow m hlt
                  obtain ⟨ao', cap', hpv, hpn, hpr⟩ := hp
                  subst hpv
                  have HP : Hid (0 < (c m).np → ∃ b' off', ao' = some ⟨b', off', none⟩ ∧ b' < w4.heap.size ∧ ∀ j, j < (c m).np → w4.rangeAt b' (off' + j * 33) (rowL 33 ((c m).p j))) := hpr
                  have hle := HA.out m hlt
                  have hle1 : ((c m).np : Int) ≤ M := by omega
                  have hpvo := (mB.cell (p := ⟨b, off + m * 68 + 66, none⟩) hbB).trans (com_pv hr)
                  clear hcs hrow hpr hpn
                  go_wp2_with (fail)
                  clear hpvo
                  go_loopw [11] (fun j wj => ∃ q : Nat, q ≤ (c m).np ∧ j = .int .i64 q ∧ Lk w5.heap.size wj m c ∧ wj.there w4.heap.size 0 (M * 33) ∧ Below w4.heap.size w4 wj ∧ ∀ i, i < q → wj.rangeAt w4.heap.size (i * 33) (rowL 33 ((c m).p i))) (fun j _ => (c m).np - (intOf j).toNat)
                  case atStart => exact ⟨0, by omega, rfl, hL, hT, mB, fun i hi => absurd hi (by omega)⟩
                  case round =>
                    obtain ⟨q, hq, rfl, hLj, hTj, mj, hdone⟩ := hrel
                    obtain ⟨wj, rfl⟩ : ∃ x, x = wr := ⟨_, rfl⟩
                    clear hL hT mB
                    have HD : Hid (∀ i, i < q → wj.rangeAt w4.heap.size (i * 33) (rowL 33 ((c m).p i))) := hdone
                    clear hdone
                    by_cases hltq : q < (c m).np
                    · obtain ⟨b', off', e', hb', hrp⟩ := HP.out (by omega)
                      subst e'
                      have hpvj := (mj.cell (p := ⟨b, off + m * 68 + 66, none⟩) hbB).trans (com_pv hr)
                      have hrq := rangeAt_below (hrp q hltq) mj hb'
                      clear hrp
                      go_wp2_with (first
                        | (refine wpList_load_midG (by rfl) 53 _ rfl _ _ rfl _ _ hrq Try.underlying53 rfl (Try.sizeL53 _) ?_)
                        | fail)
                      refine (id_any _ _).mono ?_
                      rintro e w6 ⟨rfl, hb6⟩
                      have hT6 := there_below hTj hb6 (Nat.lt_trans y5 hLj.lt)
                      have htk : w6.there w4.heap.size (q * 33) (rowL 33 ((c m).p q)).toArray.size := there_row hT6 (show q < M by omega) _
                      clear hpvj hrq
                      go_wp2_with (first
                        | (refine wpList_store_midH rfl 25 _ _ rfl _ _ _ rfl rfl htk (Try.sizeA25 _) (rowA_one _ _) ?_; intro wz hz)
                        | fail)
                      go_roundw
                      case rel =>
                        have hz' : wz = w6.setCells w4.heap.size (q * 33) (rowL 33 ((c m).p q)) := hz.out
                        subst hz'
                        refine ⟨q + 1, by omega, by go_num, (hLj.grown hb6).setCells y5 _ _, World.there_setCells hT6 _ _ _, below_setCells _ (Nat.le_refl _) _ _ _ _ (mj.trans (hb6.mono mj.size)), fun j hj => ?_⟩
                        by_cases e : j = q
                        · subst e
                          exact World.rangeAt_setCells_same _ _ _ _ (by simpa using htk)
                        · exact World.rangeAt_setCells_apart (rangeAt_below (HD.out j (by omega)) hb6 (Nat.lt_trans y5 hLj.lt)) _ _ _ (Or.inr (Or.inl (by rw [rowL_length]; omega)))
                      case measure => simp [intOf]; omega
                    · obtain rfl : q = (c m).np := by omega
                      go_wp2_with (fail)
                      obtain ⟨v0, v1, v2, v3, hLI⟩ := hLj
                      have HLI : Hid (LIs w5.heap.size (w5.heap.size + 1) wj v0 v1 v2 v3 m m (sumNp c m) m (flatIds c m) (flatComs c m) (flatPs c m) (flatSpans c m)) := hLI
                      have hgj : w4.heap.size < wj.heap.size := by have := hLI.lt; have := hLI.base; omega
                      have hnpk := HNP.out m hlt
                      have hsk := sumNp_le c hm
                      clear hLI
                      refine wp_region_held_drew (S := fun w' => Below w4.heap.size w4 w') (by kernel_rfl) mj.drew (fun hHeld => ?_)
                      refine takeV 0 84 _ rfl rfl (by kernel_rfl) (by kernel_rfl) (by kernel_rfl) (fun _ _ _ h => h) (by rfl) (fun wS hS => by (go_simp <;> with_reducible rfl)) hHeld ?_
                      simp only [List.setIfInBounds_toArray, List.set_cons_zero, List.set_cons_succ]
                      refine takeV 1 85 _ rfl rfl (by kernel_rfl) (by kernel_rfl) (by kernel_rfl) (fun _ _ _ h => h) (by rfl) (fun wS hS => by (go_simp <;> with_reducible rfl)) hHeld ?_
                      simp only [List.setIfInBounds_toArray, List.set_cons_zero, List.set_cons_succ]
                      refine takeV 2 86 _ rfl rfl (by kernel_rfl) (by kernel_rfl) (by kernel_rfl) (fun _ _ _ h => h) (by rfl) (fun wS hS => by (go_simp <;> with_reducible rfl)) hHeld ?_
                      simp only [List.setIfInBounds_toArray, List.set_cons_zero, List.set_cons_succ]
                      refine takeV 3 87 _ rfl rfl (by kernel_rfl) (by kernel_rfl) (by kernel_rfl) (fun _ _ _ h => h) (by rfl) (fun wS hS => by (go_simp <;> with_reducible rfl)) hHeld ?_
                      simp only [List.setIfInBounds_toArray, List.set_cons_zero, List.set_cons_succ]
                      refine takeL 4 88 rfl rfl 53 _ rfl _ _ rfl _ _ (by kernel_rfl) (by kernel_rfl) (by kernel_rfl) (fun _ _ _ h => h) (by rfl) (fun wS hS => rangeAt_below (com_id hr) hS hbB) Try.underlying53 rfl (Try.sizeL53 _) hHeld ?_
                      simp only [List.setIfInBounds_toArray, List.set_cons_zero, List.set_cons_succ]
                      refine takeV 6 90 _ rfl rfl (by kernel_rfl) (by kernel_rfl) (by kernel_rfl) (fun _ _ _ h => h) (by rfl) (fun wS hS => by (go_simp <;> with_reducible rfl)) hHeld ?_
                      simp only [List.setIfInBounds_toArray, List.set_cons_zero, List.set_cons_succ]
                      refine takeV 7 91 _ rfl rfl (by kernel_rfl) (by kernel_rfl) (by kernel_rfl) (fun _ _ _ h => h) (by rfl) (fun wS hS => by (go_simp <;> with_reducible rfl)) hHeld ?_
                      simp only [List.setIfInBounds_toArray, List.set_cons_zero, List.set_cons_succ]
                      refine takeV 8 92 _ rfl rfl (by kernel_rfl) (by kernel_rfl) (by kernel_rfl) (fun _ _ _ h => h) (by rfl) (fun wS hS => by (go_simp <;> with_reducible rfl)) hHeld ?_
                      simp only [List.setIfInBounds_toArray, List.set_cons_zero, List.set_cons_succ]
                      refine takeV 9 93 _ rfl rfl (by kernel_rfl) (by kernel_rfl) (by kernel_rfl) (fun _ _ _ h => h) (by rfl) (fun wS hS => by (go_simp <;> with_reducible rfl)) hHeld ?_
                      simp only [List.setIfInBounds_toArray, List.set_cons_zero, List.set_cons_succ]
                      refine takeL 10 94 rfl rfl 53 _ rfl _ _ rfl _ _ (by kernel_rfl) (by kernel_rfl) (by kernel_rfl) (fun _ _ _ h => h) (by rfl) (fun wS hS => rangeAt_below (com_tree hr) hS hbB) Try.underlying53 rfl (Try.sizeL53 _) hHeld ?_
                      simp only [List.setIfInBounds_toArray, List.set_cons_zero, List.set_cons_succ]
                      refine takeV 12 96 _ rfl rfl (by kernel_rfl) (by kernel_rfl) (by kernel_rfl) (fun _ _ _ h => h) (by rfl) (fun wS hS => by (go_simp <;> with_reducible rfl)) hHeld ?_
                      simp only [List.setIfInBounds_toArray, List.set_cons_zero, List.set_cons_succ]
                      refine takeV 13 97 _ rfl rfl (by kernel_rfl) (by kernel_rfl) (by kernel_rfl) (fun _ _ _ h => h) (by rfl) (fun wS hS => by (go_simp <;> with_reducible rfl)) hHeld ?_
                      simp only [List.setIfInBounds_toArray, List.set_cons_zero, List.set_cons_succ]
                      refine takeV 14 98 _ rfl rfl (by kernel_rfl) (by kernel_rfl) (by kernel_rfl) (fun _ _ _ h => h) (by rfl) (fun wS hS => by (go_simp <;> with_reducible rfl)) hHeld ?_
                      simp only [List.setIfInBounds_toArray, List.set_cons_zero, List.set_cons_succ]
                      refine takeV 15 99 _ rfl rfl (by kernel_rfl) (by kernel_rfl) (by kernel_rfl) (fun _ _ _ h => h) (by rfl) (fun wS hS => by (go_simp <;> with_reducible rfl)) hHeld ?_
                      simp only [List.setIfInBounds_toArray, List.set_cons_zero, List.set_cons_succ]
                      refine takeV 16 100 _ rfl rfl (by kernel_rfl) (by kernel_rfl) (by kernel_rfl) (fun _ _ _ h => h) (by rfl) (fun wS hS => by (go_simp <;> with_reducible rfl)) hHeld ?_
                      simp only [List.setIfInBounds_toArray, List.set_cons_zero, List.set_cons_succ]
                      refine takeV 17 101 _ rfl rfl (by kernel_rfl) (by kernel_rfl) (by kernel_rfl) (fun _ _ _ h => h) (by rfl) (fun wS hS => by have hcl := (hS.cell (p := ⟨b, off + m * 68 + 67, none⟩) hbB).trans (com_time hr); (go_simp <;> with_reducible rfl)) hHeld ?_
                      simp only [List.setIfInBounds_toArray, List.set_cons_zero, List.set_cons_succ]
                      refine goOne 5 (by kernel_rfl) rfl (by rfl) (fun K hK => ?_)
                      go_simp
                      refine (id_any _ _).mono ?_
                      rintro e w6 ⟨rfl, hb6⟩
                      have hg6 : Below wj.heap.size wj w6 := (Below.refl _ _).drew.trans hb6
                      have h6 : Below w4.heap.size w4 w6 := mj.trans (hg6.mono mj.size)
                      refine hK.out _ _ h6 (fun hX => ?_)
                      clear hK K hX hb6
                      replace hHeld := h6
                      refine goOne 11 (by kernel_rfl) rfl (by rfl) (fun K hK => ?_)
                      go_simp
                      refine (id_any _ _).mono ?_
                      rintro e w7 ⟨rfl, hb7⟩
                      have hg7 : Below wj.heap.size wj w7 := hg6.trans (hb7.mono hg6.size)
                      have h7 : Below w4.heap.size w4 w7 := mj.trans (hg7.mono mj.size)
                      refine hK.out _ _ h7 (fun hX => ?_)
                      clear hK K hX hb7
                      replace hHeld := h7
                      clear hg6 h6
                      clear w6
                      have hid : IdsIn (· < w7.heap.size) w7 (.slice (some ⟨w4.heap.size, 0, none⟩) (c m).np M) (c m).np (c m).p := ⟨_, M, rfl, (fun h => by cases h), fun _ => ⟨w4.heap.size, 0, rfl, Nat.lt_of_lt_of_le hgj hg7.size, fun j hj => by rw [Nat.zero_add]; exact rangeAt_below (HD.out j hj) hg7 hgj⟩⟩
                      have hT7 := there_below hTj hg7 hgj
                      clear HD hTj
                      refine goOne 18 (by kernel_rfl) rfl (by rfl) (fun K hK => ?_)
                      go_simp
                      refine (listAdd_any _ _ (c m) _ w7 _ _ _ _ _ _ _ _ _ _ _ _ (HLI.out.grown hg7) hid (by omega) (by omega) (by omega) (by omega)).mono ?_
                      rintro e w8 ⟨rfl, ⟨u0, u1, u2, u3, hL8⟩, hb8⟩
                      have h8 : Below w4.heap.size w4 w8 := h7.trans (hb8.mono (Nat.le_of_lt y5))
                      have hT8 := there_below hT7 hb8 y5
                      refine hK.out _ _ h8 (fun hX => ?_)
                      clear hK K hX hb8 hHeld
                      have hLk : Lk w5.heap.size w8 (m + 1) c := ⟨u0, u1, u2, u3, hL8⟩
                      clear hL8 hid hg7 h7 hT7 HLI
                      clear w7
                      refine wpAnyH_done (by kernel_rfl) ?_ _
                      go_wp2_with (fail)
                      go_loopw [12] (fun j wz => ∃ q : Nat, q ≤ (c m).np ∧ j = .int .i64 q ∧ Lk w5.heap.size wz (m + 1) c ∧ wz.there w4.heap.size 0 (M * 33) ∧ Below w4.heap.size w4 wz) (fun j _ => (c m).np - (intOf j).toNat)
                      case atStart => exact ⟨0, by omega, rfl, hLk, hT8, h8⟩
                      case round =>
                        obtain ⟨q, hq', rfl, hLz, hTz, mz⟩ := hrel
                        clear hLk hT8 h8
                        obtain ⟨wx, rfl⟩ : ∃ x, x = wr := ⟨_, rfl⟩
                        by_cases hltz : q < (c m).np
                        · have hJz := rangeAt_below hJ4 mz hsJ
                          go_wp2_with (first
                            | (refine wpList_load_midG (by rfl) 53 _ rfl _ _ rfl _ _ hJz Try.underlying53 rfl (Try.sizeL53 _) ?_)
                            | fail)
                          refine (id_any _ _).mono ?_
                          rintro e w9 ⟨rfl, hb9⟩
                          have hT9 := there_below hTz hb9 (Nat.lt_trans y5 hLz.lt)
                          have htk : w9.there w4.heap.size (q * 33) (rowL 33 junk).toArray.size := there_row hT9 (show q < M by omega) _
                          clear hJz
                          go_wp2_with (first
                            | (refine wpList_store_midH rfl 25 _ _ rfl _ _ _ rfl rfl htk (Try.sizeA25 _) (rowA_one _ _) ?_; intro wy hy)
                            | fail)
                          go_roundw
                          case rel =>
                            have hy' : wy = w9.setCells w4.heap.size (q * 33) (rowL 33 junk) := hy.out
                            subst hy'
                            exact ⟨q + 1, by omega, by go_num, (hLz.grown hb9).setCells y5 _ _, World.there_setCells hT9 _ _ _, below_setCells _ (Nat.le_refl _) _ _ _ _ (mz.trans (hb9.mono mz.size))⟩
                          case measure => simp [intOf]; omega
                        · go_wp2_with (fail)
                          go_roundw
                          case rel => exact ⟨m + 1, by omega, by go_num, hLz, hTz, mz⟩
                          case measure => simp [intOf]; omega
                · obtain rfl : m = n := by omega
                  obtain ⟨v0, v1, v2, v3, hLI⟩ := hL
                  have HLI : Hid (LIs w5.heap.size (w5.heap.size + 1) wo v0 v1 v2 v3 m m (sumNp c m) m (flatIds c m) (flatComs c m) (flatPs c m) (flatSpans c m)) := hLI
                  clear hLI
                  go_wp2_with (fail)
                  refine (holds_any _ _ _ m c wo _ _ _ _ HLI.out ((HC.out.below mB (fun _ h => h)).mono (fun b h => Nat.lt_of_lt_of_le h mB.size)) hn1 hs1).mono ?_
                  rintro e w9 ⟨rfl, hb9⟩
                  have l9 := l4.trans ((mB.trans (hb9.mono mB.size)).mono l4.size)
                  clear hb9
                  go_wp2_with (fail)
                  go_ret
                  exact ⟨rfl, l9⟩
    · clear hr
      go_wp2_with (fail)
      go_ret
      exact ⟨rfl, l0⟩
end Go.Proofs.Qxb6604526a
