/-
  ZZNewText, and FnNewTextSharesThePiecesItIsGiven, walked.
-/
import Derived.Test.Qxb6602723aNewText
import Derived.BigQuiet
import Derived.LaidEql
namespace Go.Proofs.Qxb6602723a
open Go.RowKit

/-- What ZZNewText answers. -/
def ZRet (v : Value) (n : Nat) (x : Nat → Pc) (w : World) (e : Ending) (w' : World) : Prop :=
  ∃ gs os cs pv, e = .returned (.tuple #[pv, .slice (some ⟨gs, os, none⟩) ((ne x n).length + 1) cs]) ∧ (∀ i, i < (ne x n).length + 1 → w'.cell? ⟨gs, os + i, none⟩ = some (.int .i64 (sumLen ((ne x n).take i) : Nat))) ∧ gs < w'.heap.size ∧
    PcsIn (· < w'.heap.size) w' pv (ne x n).length (nth (ne x n)) ∧ ((∀ i, i < n → (x i).n ≠ 0) → pv = v) ∧ Below w.heap.size w w'
set_option maxRecDepth 10000 in
set_option maxHeartbeats 1000000 in
theorem zNewText_any (v : Value) (n : Nat) (x : Nat → Pc) (w : World) (hv : PcsIn (· < w.heap.size) w v n x) (hn : (n : Int) ≤ 65536) (hsum : (sumLen (ne x n) : Int) ≤ 1048576) :
    Calls Try.prog 14 #[v] w fun e w' => ZRet v n x w e w' := by
  have HV : Hid (PcsIn (· < w.heap.size) w v n x) := hv
  obtain ⟨ao, cap, rfl, _, _⟩ := hv
  have HS : Hid ((sumLen (ne x n) : Int) ≤ 1048576) := hsum
  clear hsum
  go_enter Try.func14, Try.ntmps14
  go_wp2_with (fail)
  refine (newText_any _ n x w HV.out hn HS.out).mono ?_
  rintro e w1 ⟨T, gs, os, cs, pv, rfl, hN, hP, hsame, hb⟩
  obtain ⟨ap, cp, rfl, hpn⟩ := hP
  have HP : Hid (PcsIn (· < w1.heap.size) w1 (.slice ap (ne x n).length cp) (ne x n).length (nth (ne x n))) := ⟨ap, cp, rfl, hpn⟩
  have HSm : Hid ((∀ i, i < n → (x i).n ≠ 0) → (.slice ap (ne x n).length cp : Value) = .slice ao n cap) := hsame
  have h0 := hN.c0
  have h1 := hN.c1
  have HN := hN
  clear hsame hpn
  go_wp2_with (fail)
  go_quiet (fail)
  go_wp2_with (fail)
  exact bodyPost_ret (v := .tuple #[.slice ap (ne x n).length cp, .slice (some ⟨gs, os, none⟩) ((ne x n).length + 1) cs]) (by simp [results, Try.results14]) rfl ⟨gs, os, cs, _, rfl, fun i hi => hN.st i hi, hN.lt.2, HP.out, HSm.out, hb.trans ⟨rfl, rfl, rfl, Nat.le_refl _, fun _ _ => rfl⟩⟩

theorem below_drewN (B : Nat) (w : World) (n : Nat) : Below B w (w.drewN n) := ⟨rfl, rfl, rfl, Nat.le_refl _, fun _ _ => rfl⟩
theorem eq_ptr (t e : TypeId) (hu : Try.prog.underlying t = some (.pointer e)) (hs : (Try.prog.info? e).isSome = true) (w : World) (a : Addr) : (Op.equal t (.pointer (some a)) (.pointer (some a))).run Try.prog w = .ok true w := by
  obtain ⟨i, hi⟩ := Option.isSome_iff_exists.1 hs
  have h : ∀ d : Nat, (Op.equalIn (d + 1) t (.pointer (some a)) (.pointer (some a))).run Try.prog w = .ok true w := fun d => by
    simp [Op.equalIn, run_underlying hu, sizeOf, typeInfo, hi, run_sameAddr_same]
  exact h 9999
theorem neq_ptr38 (w : World) (a : Addr) : (binOp .neq 38 (.pointer (some a)) (.pointer (some a))).run Try.prog w = .ok (.bool false) w := by
  simp only [binOp, Sem.run_bind, eq_ptr 38 5 Try.underlying38 (by kernel_rfl) w a, Result.andThen_ok]
  rfl
theorem eql_ptr39 (w : World) (a : Addr) : (binOp .eql 39 (.pointer (some a)) (.pointer (some a))).run Try.prog w = .ok (.bool true) w := by
  simp only [binOp, Sem.run_bind, eq_ptr 39 27 Try.underlying39 (by kernel_rfl) w a, Result.andThen_ok]
  rfl
/-- The lengths of the first k pieces. -/
def totLen (x : Nat → Pc) : Nat → Nat
  | 0 => 0
  | k + 1 => totLen x k + (x k).n
theorem sumLen_ne (x : Nat → Pc) : ∀ k, sumLen (ne x k) = totLen x k
  | 0 => rfl
  | k + 1 => by
    by_cases h : (x k).n = 0
    · rw [ne_zero h, sumLen_ne x k, totLen, h]; rfl
    · rw [ne_more h, sumLen_append, sumLen_ne x k, totLen]; simp [sumLen]
theorem totLen_congr {x y : Nat → Pc} : ∀ n, (∀ i, i < n → (y i).n = (x i).n) → totLen y n = totLen x n
  | 0, _ => rfl
  | n + 1, h => by rw [totLen, totLen, totLen_congr n (fun i hi => h i (by omega)), h n (by omega)]
set_option maxRecDepth 10000 in
set_option maxHeartbeats 4000000 in
/-- The whole function: it answers true. -/
theorem shares_any (v : Value) (n : Nat) (x : Nat → Pc) (z : Nat → Nat → Int) (w : World) (hv : PcsIn (· < w.heap.size) w v n x) (hp : ∀ i, i < n → PcIn (· < w.heap.size) w (x i) (z i)) (hn : n ≤ 9223372036854775807) (hok : ∀ i, i < n → (x i).n ≤ 9223372036854775807) :
    Calls Try.prog 6 #[v] w fun e w' => e = .returned (.bool true) ∧ Below w.heap.size w w' := by
  obtain ⟨aov, capv, rfl, hvr⟩ := hv
  have HV : Hid (PcsIn (· < w.heap.size) w (.slice aov n capv) n x) := ⟨aov, capv, rfl, hvr⟩
  have HN : Hid (n ≤ 9223372036854775807) := hn
  have HO : Hid (∀ i, i < n → (x i).n ≤ 9223372036854775807) := hok
  have HP : Hid (∀ i, i < n → PcIn (· < w.heap.size) w (x i) (z i)) := hp
  clear hvr hok hp
  go_enter Try.func6, Try.ntmps6
  go_wp2_with (fail)
  refine (zzBytesA_any _ n x w HV.out HN.out HO.out).mono ?_
  rintro e w1 ⟨⟨b1, rfl⟩, hb1⟩
  cases b1 with
  | false =>
    go_wp2_with (fail)
    go_ret
    exact ⟨rfl, hb1⟩
  | true =>
    by_cases hbig : n ≤ 65536
    · have hn1 : (n : Int) ≤ 65536 := by omega
      go_wp2_with (fail)
      go_loop [3, 4] (fun t i => ∃ k : Nat, k ≤ n ∧ i = .int .i64 k ∧ t = .int .i64 (24 * n + totLen x k : Nat) ∧ (totLen x k : Int) ≤ 1048576 ∧ ∀ j, j < k → ((x j).n : Int) ≤ 1048576) (fun _ i => n - (intOf i).toNat)
      case atStart => exact ⟨0, by omega, rfl, by simp [totLen], by simp [totLen], fun j hj => absurd hj (by omega)⟩
      case round =>
        obtain ⟨k, hk, rfl, rfl, ht, hall⟩ := hrel
        have HA : Hid (∀ j, j < k → ((x j).n : Int) ≤ 1048576) := hall
        clear hall
        have HV1 : Hid (PcsIn (· < w1.heap.size) w1 (.slice aov n capv) n x) := (HV.out.below hb1 (fun _ h => h)).mono (fun b h => Nat.lt_of_lt_of_le h hb1.size)
        by_cases hlt : k < n
        · obtain ⟨ao', cap', e', _, hc⟩ := HV1.out
          obtain ⟨rfl, rfl⟩ : aov = ao' ∧ capv = cap' := by simpa using e'
          obtain ⟨b, off, e, hbB, hrow⟩ := hc (by omega)
          subst e
          have hck := hrow k hlt
          unfold Pc.v at hck
          have hok := HO.out k hlt
          have HT : Hid (totLen x (k + 1) = totLen x k + (x k).n) := rfl
          clear hc hrow e'
          generalize totLen x k = S at *
          by_cases h1 : ((x k).n : Int) ≤ 1048576
          · by_cases h2 : ((24 * n + S + (x k).n : Nat) : Int) ≤ 1048576
            · go_wp2_with (fail)
              go_round
              case rel => exact ⟨k + 1, by omega, by go_num, by rw [HT.out]; go_num, by rw [HT.out]; omega, fun j hj => by
                by_cases ej : j = k
                · subst ej; exact h1
                · exact HA.out j (by omega)⟩
              case measure => simp [intOf]; omega
            · go_wp2_with (fail)
              go_ret
              exact ⟨rfl, hb1⟩
          · go_wp2_with (fail)
            go_ret
            exact ⟨rfl, hb1⟩
        · obtain rfl : n = k := by omega
          clear hk hlt
          go_wp2_with (fail)
          refine (cloneText_any _ n x z w1 HV1.out (fun i hi => ((HP.out i hi).below hb1 (fun _ h => h)).mono (fun b h => Nat.lt_of_lt_of_le h hb1.size)) hn1 HA.out).mono ?_
          rintro e w2 ⟨v', y, rfl, _, hPy, hSy, hb2⟩
          obtain ⟨ao, cap, rfl, hyr⟩ := hPy
          have HY : Hid (PcsIn (fun b => w1.heap.size ≤ b ∧ b < w2.heap.size) w2 (.slice ao n cap) n y) := ⟨ao, cap, rfl, hyr⟩
          have HSy : Hid (∀ i, i < n → Same (fun b => w1.heap.size ≤ b ∧ b < w2.heap.size) w2 (x i) (y i) (z i)) := hSy
          have l2 := hb1.trans (hb2.mono hb1.size)
          have hsum : (sumLen (ne y n) : Int) ≤ 1048576 := by rw [sumLen_ne, totLen_congr n (fun i hi => (HSy.out i hi).1)]; exact ht
          have HSu : Hid ((sumLen (ne y n) : Int) ≤ 1048576) := hsum
          clear hyr hSy hsum hb2 ht
          go_wp2_with (fail)
          refine (zNewText_any _ n y w2 (HY.out.mono (fun b h => h.2)) hn1 HSu.out).mono ?_
          rintro e w3 ⟨gs, os, cs, pv, rfl, hst, hgs, hPp, hsame, hb3⟩
          obtain ⟨ap, cp, rfl, hpr⟩ := hPp
          have HPp : Hid (PcsIn (· < w3.heap.size) w3 (.slice ap (ne y n).length cp) (ne y n).length (nth (ne y n))) := ⟨ap, cp, rfl, hpr⟩
          have HSm : Hid ((∀ i, i < n → (y i).n ≠ 0) → (.slice ap (ne y n).length cp : Value) = .slice ao n cap) := hsame
          have HT3 : Hid (PcsIn (· < w3.heap.size) w3 (.slice ao n cap) n y) := (HY.out.below hb3 (fun b h => h.2)).mono (fun b h => Nat.lt_of_lt_of_le h.2 hb3.size)
          have HS3 : Hid (∀ i, i < n → PcIn (· < w3.heap.size) w3 (y i) (z i)) := fun i hi => ((HSy.out i hi).2.2.below hb3 (fun b h => h.2)).mono (fun b h => Nat.lt_of_lt_of_le h.2 hb3.size)
          have l3 := l2.trans (hb3.mono l2.size)
          have hmn := ne_le y n
          clear hst hgs hpr hsame hb3
          go_wp2_with (fail)
          go_loopw [7, 8, 9] (fun a j i wr => ∃ k : Nat, k ≤ n ∧ i = .int .i64 k ∧ j = .int .i64 (ne y k).length ∧ (∃ b : Bool, a = .bool b ∧ (b = false ↔ ∀ i, i < k → (y i).n ≠ 0)) ∧ Below w3.heap.size w3 wr) (fun _ _ i _ => n - (intOf i).toNat)
          case atStart => exact ⟨0, by omega, rfl, rfl, ⟨false, rfl, ⟨fun _ i hi => absurd hi (by omega), fun _ => rfl⟩⟩, Below.refl _ _⟩
          case round =>
            obtain ⟨k, hk, rfl, rfl, ⟨bb, rfl, hbb⟩, mB⟩ := hrel
            obtain ⟨wo, rfl⟩ : ∃ x, x = wr := ⟨_, rfl⟩
            have HB : Hid (bb = false ↔ ∀ i, i < k → (y i).n ≠ 0) := hbb
            clear hbb
            have HTo : Hid (PcsIn (· < w3.heap.size) wo (.slice ao n cap) n y) := HT3.out.below mB (fun _ h => h)
            have HPo : Hid (PcsIn (· < w3.heap.size) wo (.slice ap (ne y n).length cp) (ne y n).length (nth (ne y n))) := HPp.out.below mB (fun _ h => h)
            by_cases hlt : k < n
            · obtain ⟨ao', cap', e', _, hc⟩ := HTo.out
              obtain ⟨rfl, rfl⟩ : ao = ao' ∧ cap = cap' := by simpa using e'
              obtain ⟨b, off, e, hbB, hrow⟩ := hc (by omega)
              subst e
              have hck := hrow k hlt
              clear hc hrow e'
              by_cases h0 : (y k).n = 0
              · have HZ : Hid ((y k).n = 0) := h0
                unfold Pc.v at hck
                rw [h0] at hck
                clear h0
                go_wp2_with (fail)
                go_roundw
                case rel => exact ⟨k + 1, by omega, by go_num, by rw [ne_zero HZ.out], ⟨true, rfl, ⟨(fun h => by cases h), fun h => absurd HZ.out (h k (by omega))⟩⟩, mB⟩
                case measure => simp [intOf]; omega
              · have HZ : Hid ((y k).n ≠ 0) := h0
                have hat := ne_at hlt h0
                have hjlt := ne_lt hlt h0
                obtain ⟨ap', cp', e2, _, hpc⟩ := HPo.out
                obtain ⟨rfl, rfl⟩ : ap = ap' ∧ cp = cp' := by simpa using e2
                obtain ⟨bp, offp, e3, hbP, hprow⟩ := hpc (by omega)
                subst e3
                have hpk := hprow _ hjlt
                rw [nth_of hat] at hpk
                obtain ⟨by', oy, ey, hby, hzb⟩ := (HS3.out k hlt).2 (by omega)
                clear hpc hprow e2 hat hzb
                unfold Pc.v at hck hpk
                rw [ey] at hck hpk
                have hyn : 0 < ((y k).n : Int) := by omega
                have hyi : ((y k).n : Int) ≤ 1048576 := by rw [(HSy.out k hlt).1]; exact HA.out k hlt
                have hji : ((ne y k).length : Int) < (ne y n).length := by omega
                have hmi : ((ne y n).length : Int) ≤ 65536 := by omega
                have HYE : Hid ((y k).a = some ⟨by', oy, none⟩) := ey
                clear ey h0
                have HJ : Hid (ne y (k + 1) = ne y k ++ [y k]) := ne_more HZ.out
                have hyn0 : 0 < (y k).n := by omega
                generalize hYN : (y k).n = yn at *
                generalize hYC : (y k).cap = yc at *
                generalize hj' : (ne y k).length = j at *
                generalize hm' : (ne y n).length = m at *
                have hnp := fun (w : World) (a : Addr) => neq_ptr38 w a
                go_wp2_with (fail)
                go_quiet (fail)
                go_wp2_with (fail)
                go_quiet (fail)
                go_wp2_with (fail)
                refine ⟨?rel, ?measure⟩
                case rel =>
                  refine ⟨k + 1, by omega, by go_num, by rw [HJ.out, List.length_append, hj']; simp, ⟨bb, rfl, ?_⟩, mB.trans (below_drewN _ _ _)⟩
                  rw [HB.out]
                  constructor
                  · intro h i hi
                    by_cases ei : i = k
                    · subst ei; rw [hYN]; exact HZ.out
                    · exact h i (by omega)
                  · exact fun h i hi => h i (by omega)
                case measure => simp [intOf]; omega
            · obtain rfl : n = k := by omega
              have hmi : ((ne y n).length : Int) ≤ 65536 := by omega
              clear hk hlt
              cases bb with
              | true =>
                go_wp2_with (fail)
                go_ret
                exact ⟨rfl, l3.trans (mB.mono l3.size)⟩
              | false =>
                have hall := HB.out.1 rfl
                have hsm := HSm.out hall
                obtain ⟨rfl, hlen, rfl⟩ : ap = ao ∧ (ne y n).length = n ∧ cp = cap := by simpa using hsm
                have HL : Hid ((ne y n).length = n) := hlen
                clear hsm hall
                by_cases hn0 : 0 < n
                · obtain ⟨ao', cap', e', _, hc⟩ := HTo.out
                  obtain ⟨rfl, rfl⟩ : ap = ao' ∧ cp = cap' := by simpa using e'
                  obtain ⟨b, off, e, hbB, hrow⟩ := hc hn0
                  subst e
                  have hpe := fun (w : World) (a : Addr) => eql_ptr39 w a
                  clear hc hrow e'
                  have hn01 : (0 : Int) < n := by omega
                  generalize hm' : (ne y n).length = m at *
                  subst hlen
                  go_wp2_with (fail)
                  go_quiet (fail)
                  go_wp2_with (fail)
                  go_ret
                  exact ⟨rfl, l3.trans ((mB.trans (below_drewN _ _ _)).mono l3.size)⟩
                · obtain rfl : n = 0 := by omega
                  go_wp2_with (fail)
                  go_ret
                  exact ⟨rfl, l3.trans (mB.mono l3.size)⟩
    · go_wp2_with (fail)
      go_ret
      exact ⟨rfl, hb1⟩
end Go.Proofs.Qxb6602723a
