/-
  zzCloneText, walked.
-/
import Derived.Test.Qxb6602723aText
import Derived.Lib.SliceRun
namespace Go.Proofs.Qxb6602723a
open Go.RowKit

theorem below_setCells {B : Nat} (b : Nat) (hb : B ≤ b) : ∀ (vs : List Value) (o : Nat) (a w : World), Below B a w → Below B a (w.setCells b o vs)
  | [], _, _, _, h => h
  | v :: r, o, a, _, h => below_setCells b hb r (o + 1) a _ (h.setCell hb v)
theorem size_setCells (b : Nat) : ∀ (vs : List Value) (o : Nat) (w : World), (w.setCells b o vs).heap.size = w.heap.size
  | [], _, _ => rfl
  | _ :: r, o, _ => (size_setCells b r (o + 1) _).trans (by simp [World.setCell])
theorem there_of_owns {w : World} {base e size n cap g : Nat} {xs : List Value} (h : w.ownsRow base e size (.slice (some ⟨g, 0, none⟩) n cap) n xs) : w.there g 0 (n * size) := fun j hj => by
  rw [Nat.zero_add]
  refine ⟨?_, h.frozenAt j⟩
  rw [h.cellAt j hj]
  have : j < xs.length := by rw [h.1]; exact hj
  rw [List.getElem?_eq_getElem this]; rfl
theorem there_below {w w' : World} {B g o m : Nat} (h : w.there g o m) (hb : Below B w w') (hg : g < B) : w'.there g o m := fun j hj => by
  have := h j hj
  exact ⟨by rw [hb.cell (p := ⟨g, o + j, none⟩) hg]; exact this.1, by rw [hb.frozen (p := ⟨g, o + j, none⟩) hg]; exact this.2⟩
theorem there_cell {w : World} {g m k : Nat} (h : w.there g 0 m) (hk : k < m) : (∃ u, w.cell? ⟨g, k, none⟩ = some u) ∧ w.frozen? ⟨g, k, none⟩ = false := by
  have := h k hk
  rw [Nat.zero_add] at this
  exact ⟨Option.isSome_iff_exists.1 this.1, this.2⟩
/-- Is it nil? -/
def nilV : Value → Bool
  | .slice none _ _ => true
  | _ => false
/-- The copy y of the pieces x. -/
def Same (R : Nat → Prop) (w : World) (x y : Pc) (z : Nat → Int) : Prop := y.n = x.n ∧ (y.a = none ↔ x.a = none) ∧ PcIn R w y z
theorem Same.below {R : Nat → Prop} {B : Nat} {w w' : World} {x y : Pc} {z : Nat → Int} (h : Same R w x y z) (hb : Below B w w') (hB : ∀ b, R b → b < B) : Same R w' x y z := ⟨h.1, h.2.1, h.2.2.below hb hB⟩
theorem Same.mono {R R' : Nat → Prop} {w : World} {x y : Pc} {z : Nat → Int} (h : Same R w x y z) (hR : ∀ b, R b → R' b) : Same R' w x y z := ⟨h.1, h.2.1, h.2.2.mono hR⟩
theorem PcIn.set {R : Nat → Prop} {w : World} {p : Pc} {z : Nat → Int} {g : Nat} (h : PcIn R w p z) (hR : ∀ b, R b → b ≠ g) (k : Nat) (u : Value) : PcIn R (w.setCell ⟨g, k, none⟩ u) p z := by
  refine ⟨h.1, fun h0 => ?_⟩
  obtain ⟨b, off, e, hlt, hr⟩ := h.2 h0
  exact ⟨b, off, e, hlt, fun j hj => (World.cell?_setCell_other _ _ _ _ (fun e' => hR b hlt (by simpa using (congrArg Addr.block e').symm))).trans (hr j hj)⟩
theorem Same.set {R : Nat → Prop} {w : World} {x y : Pc} {z : Nat → Int} {g : Nat} (h : Same R w x y z) (hR : ∀ b, R b → b ≠ g) (k : Nat) (u : Value) : Same R (w.setCell ⟨g, k, none⟩ u) x y z := ⟨h.1, h.2.1, h.2.2.set hR k u⟩
theorem set_same {w : World} {g k : Nat} {u v : Value} (h : w.cell? ⟨g, k, none⟩ = some u) : (w.setCell ⟨g, k, none⟩ v).cell? ⟨g, k, none⟩ = some v := World.cell?_setCell_same _ _ _ h
theorem set_other {w : World} {g k j : Nat} {v : Value} (h : j ≠ k) : (w.setCell ⟨g, k, none⟩ v).cell? ⟨g, j, none⟩ = w.cell? ⟨g, j, none⟩ := World.cell?_setCell_other _ _ _ _ (fun e => h (by simpa using (congrArg Addr.off e).symm))
theorem Try.info27 : (Try.prog.info? 27).map (fun i => (i.zero, i.size, i.bytes)) = some (some (.slice none 0 0), 1, 24) := by kernel_rfl
theorem Try.info5 : (Try.prog.info? 5).map (fun i => (i.zero, i.size, i.bytes)) = some (some (.int .u8 0), 1, 1) := by kernel_rfl

/-- What zzCloneText answers. -/
def CloneRet (v : Value) (n : Nat) (x : Nat → Pc) (z : Nat → Nat → Int) (w : World) (e : Ending) (w' : World) : Prop :=
  ∃ v' y, e = .returned v' ∧ nilV v' = nilV v ∧ PcsIn (fun b => w.heap.size ≤ b ∧ b < w'.heap.size) w' v' n y ∧ (∀ i, i < n → Same (fun b => w.heap.size ≤ b ∧ b < w'.heap.size) w' (x i) (y i) (z i)) ∧ Below w.heap.size w w'
theorem made_get (u : Value) (n j : Nat) (h : j < n) : (madeCells #[u] n).toList[j]? = some u := by
  simp [madeCells, h, Nat.mod_one]
/-- The pieces that are copied so far. -/
def Done (g n k : Nat) (x y : Nat → Pc) (z : Nat → Nat → Int) (w : World) : Prop :=
  (∀ j, j < k → w.cell? ⟨g, j, none⟩ = some (y j).v ∧ Same (fun b => g < b ∧ b < w.heap.size) w (x j) (y j) (z j)) ∧ ∀ j, k ≤ j → j < n → w.cell? ⟨g, j, none⟩ = some (.slice none 0 0)
/-- One more piece is nil. -/
theorem Done.nil {g n k : Nat} {x y : Nat → Pc} {z : Nat → Nat → Int} {w : World} (h : Done g n k x y z w) (hk : k < n) (hx : (x k).a = none) (hn : (x k).n = 0) : Done g n (k + 1) x (fun j => if j < k then y j else ⟨none, 0, 0⟩) z w := by
  refine ⟨fun j hj => ?_, fun j h1 h2 => h.2 j (by omega) h2⟩
  by_cases e : j < k
  · simp only [e, if_true]; exact h.1 j e
  · obtain rfl : j = k := by omega
    simp only [e, if_false]
    exact ⟨h.2 j (Nat.le_refl _) hk, hn.symm, ⟨fun _ => hx, fun _ => rfl⟩, fun _ => ⟨rfl, rfl⟩, fun h => absurd h (by simp)⟩
/-- One more piece is laid. -/
theorem Done.more {g n k p : Nat} {x y : Nat → Pc} {z : Nat → Nat → Int} {w w2 : World} (h : Done g n k x y z w) (hg : g < w.heap.size) (hb : Below w.heap.size w w2) (hk : k < n) (hx : (x k).a ≠ none) (hp : w.heap.size ≤ p) (hp2 : p < w2.heap.size)
    (hr : ∀ j, j < (x k).n → w2.cell? ⟨p, j, none⟩ = some (.int .u8 (z k j))) :
    Done g n (k + 1) x (fun j => if j < k then y j else ⟨some ⟨p, 0, none⟩, (x k).n, (x k).n⟩) z (w2.setCell ⟨g, k, none⟩ (.slice (some ⟨p, 0, none⟩) (x k).n (x k).n)) := by
  have hc : ∀ j, w2.cell? ⟨g, j, none⟩ = w.cell? ⟨g, j, none⟩ := fun j => hb.cell (p := ⟨g, j, none⟩) hg
  have hs := hb.size
  have hz : (w2.setCell ⟨g, k, none⟩ (.slice (some ⟨p, 0, none⟩) (x k).n (x k).n)).heap.size = w2.heap.size := by simp [World.setCell]
  refine ⟨fun j hj => ?_, fun j h1 h2 => (set_other (by omega)).trans ((hc j).trans (h.2 j (by omega) h2))⟩
  by_cases e : j < k
  · simp only [e, if_true]
    obtain ⟨h1, h2⟩ := h.1 j e
    refine ⟨(set_other (by omega)).trans ((hc j).trans h1), ?_⟩
    exact ((h2.below hb (fun b h => h.2)).set (fun b h => by omega) _ _).mono (fun b h => by rw [hz]; omega)
  · obtain rfl : j = k := by omega
    simp only [e, if_false]
    refine ⟨set_same ((hc j).trans (h.2 j (Nat.le_refl _) hk)), rfl, ⟨(fun h => by cases h), fun h => absurd h hx⟩, ⟨(fun h => by cases h), fun _ => ⟨p, 0, rfl, ⟨by omega, by rw [hz]; exact hp2⟩, fun i hi => ?_⟩⟩⟩
    rw [Nat.zero_add]
    exact (World.cell?_setCell_other _ _ _ _ (fun e => by have := congrArg Addr.block e; simp at this; omega)).trans (hr i hi)

set_option maxRecDepth 10000 in
set_option maxHeartbeats 2000000 in
/-- zzCloneText. -/
theorem cloneText_any (v : Value) (n : Nat) (x : Nat → Pc) (z : Nat → Nat → Int) (w : World) (hv : PcsIn (· < w.heap.size) w v n x) (hp : ∀ i, i < n → PcIn (· < w.heap.size) w (x i) (z i)) (hn : (n : Int) ≤ 65536) (hok : ∀ i, i < n → ((x i).n : Int) ≤ 1048576) :
    Calls Try.prog 13 #[v] w fun e w' => CloneRet v n x z w e w' := by
  obtain ⟨ao, cap, rfl, hnil, hcs⟩ := hv
  obtain ⟨i0, hi, hz0, hz1, hz2⟩ := info_parts Try.info27
  have hnl := fun (w : World) (a : Option Addr) (n c : Nat) => Lib.run_eql_slice_nil (P := Try.prog) w 30 27 a n c 0 0 Try.underlying30
  cases ao with
  | none =>
    obtain ⟨rfl, rfl⟩ := hnil rfl
    go_enter Try.func13, Try.ntmps13
    go_wp2
    go_ret
    exact ⟨_, x, rfl, rfl, ⟨none, 0, rfl, fun _ => ⟨rfl, rfl⟩, fun h => absurd h (by omega)⟩, fun i h => absurd h (by omega), Below.refl _ _⟩
  | some a =>
    have HP : Hid (∀ i, i < n → PcIn (· < w.heap.size) w (x i) (z i)) := hp
    have HO : Hid (∀ i, i < n → ((x i).n : Int) ≤ 1048576) := hok
    have HC : Hid (0 < n → ∃ b off, some a = some ⟨b, off, none⟩ ∧ b < w.heap.size ∧ ∀ i, i < n → w.cell? ⟨b, off + i, none⟩ = some (x i).v) := hcs
    clear hp hok hcs
    go_enter Try.func13, Try.ntmps13
    go_wp2_with (at_make; refine wpList_make_full _ rfl _ _ 30 rfl w.heap.size 27 i0 _ 1 Try.underlying30 hi hz0 hz1 _ _ _ _ n rfl rfl rfl rfl (by rw [hz2]; omega) (by unfold maxLen; omega) (Nat.le_refl _) ?_)
    intro w1 hown hgrow
    have ht := there_of_owns hown
    rw [Nat.mul_one] at ht
    have l1 : Below w.heap.size w w1 := (Below.refl _ _).grown hgrow (Nat.le_refl _) (fun k h => by cases h)
    have y1 : w.heap.size < w1.heap.size := (hown.lt w.heap.size rfl).2
    have d1 : Done w.heap.size n 0 x (fun _ => ⟨none, 0, 0⟩) z w1 := ⟨fun j hj => absurd hj (by omega), fun j _ hj => (hown.cellAt j (by omega)).trans (made_get _ _ _ (by omega))⟩
    clear hown hgrow hnl hi hz0 hz1 hz2
    clear i0
    have hnl := fun (w : World) (a : Option Addr) (n c : Nat) => Lib.run_eql_slice_nil (P := Try.prog) w 27 5 a n c 0 0 Try.underlying27
    go_wp2
    go_loopw [4] (fun i wr => ∃ k : Nat, k ≤ n ∧ i = .int .i64 k ∧ (∃ y, Done w.heap.size n k x y z wr) ∧ wr.there w.heap.size 0 n ∧ Below w.heap.size w wr ∧ w.heap.size < wr.heap.size) (fun i _ => n - (intOf i).toNat)
    case atStart => exact ⟨0, by omega, rfl, ⟨_, d1⟩, ht, l1, y1⟩
    case round =>
      obtain ⟨k, hk, rfl, ⟨y, hD⟩, ht', m0, z0⟩ := hrel
      obtain ⟨wo, rfl⟩ : ∃ x, x = wr := ⟨_, rfl⟩
      clear ht l1 y1 d1
      by_cases hlt : k < n
      · obtain ⟨b, off, e, hbB, hrow⟩ := HC.out (by omega)
        obtain rfl : a = ⟨b, off, none⟩ := by simpa using e
        have hxk := (m0.cell (p := ⟨b, off + k, none⟩) hbB).trans (hrow k hlt)
        have hpk := HP.out k hlt
        have hok := HO.out k hlt
        have hbo : b < wo.heap.size := Nat.lt_of_lt_of_le hbB m0.size
        clear hrow
        unfold Pc.v at hxk
        have HD : Hid (Done w.heap.size n k x y z wo) := hD
        clear hD
        generalize hx : x k = xk at hxk hpk hok
        obtain ⟨xa, xn, xc⟩ := xk
        cases xa with
        | none =>
          have h0 := (hpk.1 rfl).1
          go_wp2
          go_roundw
          case rel => exact ⟨k + 1, by omega, by go_num, ⟨_, HD.out.nil hlt (by rw [hx]) (by rw [hx]; exact h0)⟩, ht', m0, z0⟩
          case measure => simp [intOf]; omega
        | some xa =>
          obtain ⟨i0, hi, hz0, hz1, hz2⟩ := info_parts Try.info5
          have HX : Hid (x k = ⟨some xa, xn, xc⟩) := hx
          have HPk := hpk.2
          have HPk' : Hid (0 < xn → ∃ b off, some xa = some ⟨b, off, none⟩ ∧ b < w.heap.size ∧ ∀ j, j < xn → w.cell? ⟨b, off + j, none⟩ = some (.int .u8 (z k j))) := HPk
          simp only at hxk hok
          clear hx hpk HPk
          go_wp2_with (at_make; refine wpList_make_full _ rfl _ _ 27 rfl wo.heap.size 5 i0 _ 1 Try.underlying27 hi hz0 hz1 _ _ _ _ xn rfl rfl rfl rfl (by rw [hz2]; omega) (by unfold maxLen; omega) (Nat.le_refl _) ?_)
          intro w2 hown hgrow
          have hti := there_of_owns hown
          rw [Nat.mul_one] at hti
          have l2 : Below wo.heap.size wo w2 := (Below.refl _ _).grown hgrow (Nat.le_refl _) (fun k h => by cases h)
          have y2 : wo.heap.size < w2.heap.size := (hown.lt wo.heap.size rfl).2
          clear hown hgrow hi hz0 hz1 hz2
          clear i0
          have HXO : Hid (wo.cell? ⟨b, off + k, none⟩ = some (.slice (some xa) xn xc)) := hxk
          clear hxk
          go_wp2
          go_loopw [6] (fun j wj => ∃ q : Nat, q ≤ xn ∧ j = .int .i64 q ∧ wj.there wo.heap.size 0 xn ∧ Below wo.heap.size wo wj ∧ wo.heap.size < wj.heap.size ∧ ∀ i, i < q → wj.cell? ⟨wo.heap.size, i, none⟩ = some (.int .u8 (z k i))) (fun j _ => xn - (intOf j).toNat)
          case atStart => exact ⟨0, by omega, rfl, hti, l2, y2, fun j hj => absurd hj (by omega)⟩
          case round =>
            obtain ⟨q, hq, rfl, htj, mj, zj, hdone⟩ := hrel
            obtain ⟨wj, rfl⟩ : ∃ x, x = wr := ⟨_, rfl⟩
            clear hti l2 y2
            have hxj := (mj.cell (p := ⟨b, off + k, none⟩) hbo).trans HXO.out
            have HQ : Hid (∀ i, i < q → wj.cell? ⟨wo.heap.size, i, none⟩ = some (.int .u8 (z k i))) := hdone
            clear hdone
            by_cases hltq : q < xn
            · obtain ⟨b', off', e', hb', hrp⟩ := HPk'.out (by omega)
              obtain rfl : xa = ⟨b', off', none⟩ := by simpa using e'
              have hbq : b' < wo.heap.size := Nat.lt_of_lt_of_le hb' m0.size
              have hzq := (mj.cell (p := ⟨b', off' + q, none⟩) hbq).trans ((m0.cell (p := ⟨b', off' + q, none⟩) hb').trans (hrp q hltq))
              obtain ⟨⟨u, hu⟩, hf⟩ := there_cell htj hltq
              clear hrp
              go_wp2
              go_roundw
              case rel =>
                refine ⟨q + 1, by omega, by go_num, World.there_setCells htj _ q [_], mj.setCell (Nat.le_refl _) _, by simpa [World.setCell] using zj, fun i hi => ?_⟩
                by_cases ei : i = q
                · subst ei
                  exact set_same hu
                · exact (set_other ei).trans (HQ.out i (by omega))
              case measure => simp [intOf]; omega
            · obtain rfl : q = xn := by omega
              have hgj : w.heap.size < wj.heap.size := Nat.lt_trans z0 zj
              obtain ⟨⟨u, hu⟩, hf⟩ := there_cell (there_below ht' mj z0) hlt
              go_wp2
              go_roundw
              case rel =>
                have hd := HD.out.more (p := wo.heap.size) z0 mj hlt (by rw [HX.out]; simp) (Nat.le_refl _) zj (by rw [HX.out]; exact HQ.out)
                rw [HX.out] at hd
                exact ⟨k + 1, by omega, by go_num, ⟨_, hd⟩, World.there_setCells (there_below ht' mj z0) _ k [_], (m0.trans (mj.mono m0.size)).setCell (Nat.le_refl _) _, by simpa [World.setCell] using hgj⟩
              case measure => simp [intOf]; omega
      · obtain rfl : k = n := by omega
        have HD : Hid (Done w.heap.size k k x y z wo) := hD
        clear hD
        go_wp2
        go_ret
        refine ⟨_, y, rfl, rfl, ⟨some ⟨w.heap.size, 0, none⟩, k, rfl, (fun h => by cases h), fun _ => ⟨_, _, rfl, ⟨Nat.le_refl _, z0⟩, fun j hj => by rw [Nat.zero_add]; exact (HD.out.1 j hj).1⟩⟩, fun i hi => (HD.out.1 i hi).2.mono (fun b h => ⟨Nat.le_of_lt h.1, h.2⟩), m0⟩
end Go.Proofs.Qxb6602723a
