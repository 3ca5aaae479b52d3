/-
  The pieces that are not empty; slices.DeleteFunc, walked.
-/
import Derived.Test.Qxb6602723aSlClone
namespace Go.Proofs.Qxb6602723a
open Go.RowKit

/-- The pieces among the first k that are not empty. -/
def ne (x : Nat → Pc) : Nat → List Pc
  | 0 => []
  | k + 1 => if (x k).n = 0 then ne x k else ne x k ++ [x k]
theorem ne_zero {x : Nat → Pc} {k : Nat} (h : (x k).n = 0) : ne x (k + 1) = ne x k := by simp [ne, h]
theorem ne_more {x : Nat → Pc} {k : Nat} (h : (x k).n ≠ 0) : ne x (k + 1) = ne x k ++ [x k] := by simp [ne, h]
theorem ne_le (x : Nat → Pc) : ∀ k, (ne x k).length ≤ k
  | 0 => by simp [ne]
  | k + 1 => by
    have := ne_le x k
    by_cases h : (x k).n = 0
    · rw [ne_zero h]; omega
    · rw [ne_more h]; simp; omega
theorem ne_all (x : Nat → Pc) : ∀ k, (∀ i, i < k → (x i).n ≠ 0) → (ne x k).length = k ∧ ∀ i, i < k → (ne x k)[i]? = some (x i)
  | 0, _ => ⟨rfl, fun i hi => absurd hi (by omega)⟩
  | k + 1, h => by
    obtain ⟨h1, h2⟩ := ne_all x k (fun i hi => h i (by omega))
    rw [ne_more (h k (by omega))]
    refine ⟨by simp [h1], fun i hi => ?_⟩
    by_cases e : i < k
    · rw [List.getElem?_append_left (by omega)]; exact h2 i e
    · obtain rfl : i = k := by omega
      rw [List.getElem?_append_right (by omega), h1]; simp
theorem ne_prefix (x : Nat → Pc) {k : Nat} : ∀ {n : Nat}, k ≤ n → ∃ r, ne x n = ne x k ++ r
  | 0, h => by obtain rfl : k = 0 := by omega
               exact ⟨[], by simp⟩
  | n + 1, h => by
    by_cases e : k = n + 1
    · subst e; exact ⟨[], by simp⟩
    · obtain ⟨r, hr⟩ := ne_prefix x (k := k) (n := n) (by omega)
      by_cases h0 : (x n).n = 0
      · exact ⟨r, by rw [ne_zero h0, hr]⟩
      · exact ⟨r ++ [x n], by rw [ne_more h0, hr, List.append_assoc]⟩
theorem ne_at {x : Nat → Pc} {k n : Nat} (hk : k < n) (h : (x k).n ≠ 0) : (ne x n)[(ne x k).length]? = some (x k) := by
  obtain ⟨r, hr⟩ := ne_prefix x (show k + 1 ≤ n by omega)
  rw [hr, ne_more h, List.append_assoc, List.getElem?_append_right (Nat.le_refl _)]
  simp
theorem ne_lt {x : Nat → Pc} {k n : Nat} (hk : k < n) (h : (x k).n ≠ 0) : (ne x k).length < (ne x n).length := (List.getElem?_eq_some_iff.1 (ne_at hk h)).1
theorem ne_short {x : Nat → Pc} {k : Nat} : ∀ {n : Nat}, k < n → (x k).n = 0 → (ne x n).length < n
  | n + 1, hk, h => by
    by_cases e : k = n
    · subst e
      rw [ne_zero h]
      have := ne_le x k
      omega
    · have := ne_short (n := n) (by omega) h
      by_cases h0 : (x n).n = 0
      · rw [ne_zero h0]; omega
      · rw [ne_more h0]; simp; omega
/-- The row at block g holds the pieces l. -/
def Lies (w : World) (g : Nat) (l : List Pc) : Prop := ∀ j p, l[j]? = some p → w.cell? ⟨g, j, none⟩ = some p.v
theorem Lies.set {w : World} {g : Nat} {l : List Pc} {p : Pc} {u : Value} (h : Lies w g l) (hu : w.cell? ⟨g, l.length, none⟩ = some u) : Lies (w.setCell ⟨g, l.length, none⟩ p.v) g (l ++ [p]) := fun j q hq => by
  by_cases e : j < l.length
  · rw [List.getElem?_append_left e] at hq
    exact (set_other (by omega)).trans (h j q hq)
  · by_cases e2 : j = l.length
    · subst e2
      rw [List.getElem?_append_right (Nat.le_refl _)] at hq
      simp at hq
      subst hq
      exact set_same hu
    · rw [List.getElem?_eq_none (by simp; omega)] at hq
      cases hq
theorem Try.zero27 (w : World) : (zeroValue 27).run Try.prog w = .ok (.slice none 0 0) w := by
  obtain ⟨i0, hi, hz0, hz1, hz2⟩ := info_parts Try.info27
  simp [zeroValue, typeInfo, hi, hz0]
/-- What slices.DeleteFunc answers. -/
def DelRet (g c n : Nat) (x : Nat → Pc) (w : World) (e : Ending) (w' : World) : Prop :=
  e = .returned (.slice (some ⟨g, 0, none⟩) (ne x n).length c) ∧ Lies w' g (ne x n) ∧ Below g w w' ∧ w'.heap.size = w.heap.size
set_option maxRecDepth 10000 in
set_option maxHeartbeats 2000000 in
theorem deleteFunc_any (g n c : Nat) (x : Nat → Pc) (w : World) (hg : g < w.heap.size) (ht : w.there g 0 n) (hc : ∀ i, i < n → w.cell? ⟨g, i, none⟩ = some (x i).v) (hnc : (n : Int) ≤ c) (hn : (n : Int) ≤ 65536) (k0 : Nat) (hk0 : k0 < n) (hx0 : (x k0).n = 0) :
    Calls Try.prog 23 #[.slice (some ⟨g, 0, none⟩) n c, .func (.func 25) #[] #[]] w fun e w' => DelRet g c n x w e w' := by
  have HC : Hid (∀ i, i < n → w.cell? ⟨g, i, none⟩ = some (x i).v) := hc
  have HX : Hid ((x k0).n = 0) := hx0
  clear hc hx0
  go_enter Try.func23, Try.ntmps23
  go_wp2_with (fail)
  refine (indexFunc25_any _ n x w ⟨_, c, rfl, (fun h => by cases h), fun _ => ⟨g, 0, rfl, hg, fun i hi => by rw [Nat.zero_add]; exact HC.out i hi⟩⟩ hn).mono ?_
  rintro e w1 ⟨⟨r, rfl, hr⟩, rfl⟩
  rcases hr with ⟨rfl, hall⟩ | ⟨k, rfl, hk, h0, hall⟩
  · exact absurd HX.out (hall k0 hk0)
  · have hne := ne_all x k hall
    have HE : Hid (ne x (k + 1) = ne x k ∧ (ne x k).length = k ∧ ∀ i, i < k → (ne x k)[i]? = some (x i)) := ⟨ne_zero h0, hne⟩
    clear hne hall h0
    go_wp2_with (fail)
    go_loopw [5, 6] (fun i j wr => ∃ q : Nat, q ≤ n ∧ j = .int .i64 q ∧ i = .int .i64 (ne x q).length ∧ (ne x q).length < q ∧ Lies wr g (ne x q) ∧ (∀ t, q ≤ t → t < n → wr.cell? ⟨g, t, none⟩ = some (x t).v) ∧ wr.there g 0 n ∧ Below g w1 wr ∧ wr.heap.size = w1.heap.size) (fun _ j _ => n - (intOf j).toNat)
    case atStart =>
      refine ⟨k + 1, by omega, by go_num, by rw [HE.out.1, HE.out.2.1], by rw [HE.out.1, HE.out.2.1]; omega, fun j p hp => ?_, fun t _ h2 => HC.out t h2, ht, Below.refl _ _, rfl⟩
      rw [HE.out.1] at hp
      have hj : j < k := by have := (List.getElem?_eq_some_iff.1 hp).1; rw [HE.out.2.1] at this; exact this
      rw [HE.out.2.2 j hj] at hp
      simp at hp
      subst hp
      exact HC.out j (by omega)
    case round =>
      obtain ⟨q, hq, rfl, rfl, hlen, hL, hrest, htr, mB, hsz⟩ := hrel
      obtain ⟨wo, rfl⟩ : ∃ x, x = wr := ⟨_, rfl⟩
      have HL : Hid (Lies wo g (ne x q)) := hL
      have HR : Hid (∀ t, q ≤ t → t < n → wo.cell? ⟨g, t, none⟩ = some (x t).v) := hrest
      have HB : Hid (wo.heap.size = w1.heap.size) := hsz
      clear hL hrest ht hsz
      by_cases hlt : q < n
      · have hcq := HR.out q (Nat.le_refl _) hlt
        unfold Pc.v at hcq
        obtain ⟨⟨u, hu⟩, hf⟩ := there_cell htr (show (ne x q).length < n by omega)
        have hlen1 : ((ne x q).length : Int) < n := by omega
        have hlen2 : ((ne x q).length : Int) + 1 ≤ 65536 := by omega
        have HU : Hid (wo.cell? ⟨g, (ne x q).length, none⟩ = some u) := hu
        have HF : Hid (wo.frozen? ⟨g, (ne x q).length, none⟩ = false) := hf
        clear hu hf
        go_wp2_with (fail)
        refine (tells25 _ _ _ _).mono ?_
        rintro e w2 ⟨rfl, rfl⟩
        by_cases h0 : (x q).n = 0
        · have HZ : Hid ((x q).n = 0) := h0
          rw [h0]
          clear h0 hcq
          go_wp2_with (fail)
          refine ⟨?_, ?measure⟩
          apply Exists.intro
          (repeat apply Exists.intro)
          refine ⟨?rel, rfl⟩
          case rel => exact ⟨q + 1, by omega, by go_num, by rw [ne_zero HZ.out], by rw [ne_zero HZ.out]; omega, by rw [ne_zero HZ.out]; exact HL.out, fun t h1 h2 => HR.out t (by omega) h2, htr, mB, HB.out⟩
          case measure => simp [intOf]; omega
        · have HZ : Hid ((x q).n ≠ 0) := h0
          rw [show ((x q).n == 0) = false by simpa using h0]
          have hu := HU.out
          have hf := HF.out
          clear h0 hcq
          generalize hm : (ne x q).length = m at *
          go_wp2_with (fail)
          refine ⟨?_, ?measure⟩
          apply Exists.intro
          (repeat apply Exists.intro)
          refine ⟨?rel, rfl⟩
          case rel =>
            subst hm
            refine ⟨q + 1, by omega, by go_num, by rw [ne_more HZ.out]; simp, by rw [ne_more HZ.out]; simp; omega, by rw [ne_more HZ.out]; exact HL.out.set HU.out, fun t h1 h2 => (set_other (by omega)).trans (HR.out t (by omega) h2), World.there_setCells htr _ _ [_], mB.setCell (Nat.le_refl _) _, by simpa [World.setCell] using HB.out⟩
          case measure => simp [intOf]; omega
      · obtain rfl : q = n := by omega
        have hcl : ∀ ty, (Builtin.clear_ #[44] ty #[.slice (some ⟨g, (ne x q).length, none⟩) (q - (ne x q).length) (c - (ne x q).length)]).run Try.prog wo = .ok (.tuple #[]) (wo.setCells g (ne x q).length (List.replicate (q - (ne x q).length) (.slice none 0 0))) :=
          fun ty => Lib.run_clear_slice wo 44 27 ty _ Try.underlying44 Try.zero27 rfl rfl g (ne x q).length _ _ (by omega) (fun t ht => by have := (htr ((ne x q).length + t) (by omega)).1; rwa [Nat.zero_add] at this) (fun t ht => by have := (htr ((ne x q).length + t) (by omega)).2; rwa [Nat.zero_add] at this)
        obtain ⟨wz, hz⟩ : ∃ wz, wz = wo.setCells g (ne x q).length (List.replicate (q - (ne x q).length) (.slice none 0 0)) := ⟨_, rfl⟩
        rw [← hz] at hcl
        have hLz : Lies wz g (ne x q) := fun j p hp => by
          rw [hz, World.cell?_setCells_out _ _ _ _ _ (fun _ _ => Or.inl (List.getElem?_eq_some_iff.1 hp).1)]
          exact HL.out j p hp
        have hBz : Below g w1 wz := by rw [hz]; exact below_setCells _ (Nat.le_refl _) _ _ _ _ mB
        have hSz : wz.heap.size = w1.heap.size := by rw [hz, size_setCells]; exact HB.out
        have HLz : Hid (Lies wz g (ne x q) ∧ wz.heap.size = w1.heap.size) := ⟨hLz, hSz⟩
        clear hz hLz hSz htr
        have HM : Hid ((ne x q).length = (ne x q).length) := rfl
        generalize hm : (ne x q).length = m at *
        have HM' : Hid ((ne x q).length = m) := hm
        clear hm HM
        have hm1 : (m : Int) ≤ q := by omega
        go_wp2_with (fail)
        go_ret
        exact ⟨by rw [HM'.out]; rfl, HLz.out.1, hBz, HLz.out.2⟩
end Go.Proofs.Qxb6602723a
