/-
  newText, walked.
-/
import Derived.Test.Qxb6602723aDelete
import Derived.ArgAppend
namespace Go.Proofs.Qxb6602723a
open Go.RowKit

/-- The sum of the pieces' lengths. -/
def sumLen : List Pc → Nat
  | [] => 0
  | p :: r => p.n + sumLen r
theorem sumLen_append (l r : List Pc) : sumLen (l ++ r) = sumLen l + sumLen r := by
  induction l with
  | nil => simp [sumLen]
  | cons a l ih => simp [sumLen, ih]; omega
def nth (l : List Pc) (j : Nat) : Pc := l[j]?.getD ⟨none, 0, 0⟩
theorem nth_of {l : List Pc} {j : Nat} {p : Pc} (h : l[j]? = some p) : nth l j = p := by simp [nth, h]
theorem get_nth {l : List Pc} {j : Nat} (h : j < l.length) : l[j]? = some (nth l j) := by
  simp [nth, List.getElem?_eq_getElem h]
theorem sumLen_take {l : List Pc} {j : Nat} (h : j < l.length) : sumLen (l.take (j + 1)) = sumLen (l.take j) + (nth l j).n := by
  rw [List.take_add_one, get_nth h, sumLen_append]
  simp [sumLen]

/-- One element is appended where there is room. -/
theorem wpList_append_room {P : Program} {ops : Array Oper} {rest : List Oper} {o : Oper} {a : Act} {w : World} {Q : Exit → Act → World → Prop} (hgd : o.guard = none) (d : Nat) (hd : o.dst = some d) (s x : Operand) (t : TypeId)
    (ho : o.op = .call { callee := .builtin .append, args := #[s, x], argTypes := #[t, t] })
    (e : TypeId) (i : TypeInfo) (ht : P.underlying t = some (.slice e)) (hi : P.info? e = some i) (hsize : i.size = 1)
    (b off sLen sCap : Nat) (hs : a.eval s = .slice (some ⟨b, off, none⟩) sLen sCap) (ad : Addr) (c : Nat) (u : Value) (hx : a.eval x = .slice (some ad) 1 c) (hu : w.cell? ad = some u) (h1 : u.oneCell' = true)
    (hroom : sLen + 1 ≤ sCap) (hc : (w.cell? ⟨b, off + sLen, none⟩).isSome = true) (hf : w.frozen? ⟨b, off + sLen, none⟩ = false)
    (h : wpList P ops Q rest ⟨a.tmps.setIfInBounds d (.slice (some ⟨b, off, none⟩) (sLen + 1) sCap), a.defers⟩ (w.setCell ⟨b, off + sLen, none⟩ u)) : wpList P ops Q (o :: rest) a w := by
  refine wpList_plain hgd fun K hK => ?_
  have hput : ∀ v', a.put o.dst v' = ⟨a.tmps.setIfInBounds d v', a.defers⟩ := fun v' => by rw [hd]; rfl
  have hr := run_append_room_cells (P := P) w t o.type e i ht hi b off sLen sCap ad 1 c [u] (by rw [hsize]; rfl) (fun j v hv => by
    have hj : j = 0 := by have := (List.getElem?_eq_some_iff.1 hv).1; simp at this; exact this
    subst hj
    simp at hv
    subst hv
    simpa [Addr.add] using hu) (by simpa using h1) hroom (fun j hj => by
      have hj : j = 0 := by simpa using hj
      subst hj
      rw [hsize, Nat.mul_one]; exact hc) (fun j hj => by
      have hj : j = 0 := by simpa using hj
      subst hj
      rw [hsize, Nat.mul_one]; exact hf)
  unfold Oper.wp execOp
  simp only [ho, resolve, invoke, builtin, Sem.run_bind, Sem.run_pure, Result.andThen_ok, List.map_toArray, List.map_cons, List.map_nil, hs, hx, hr]
  show K (a.put o.dst _) _
  rw [hput, hsize, Nat.mul_one]
  exact hK _ _ h

theorem Try.info3 : (Try.prog.info? 3).map (fun i => (i.zero, i.size, i.bytes)) = some (some (.int .i64 0), 1, 8) := by kernel_rfl
/-- The text at block T: its pieces pv, j starts laid. -/
structure NT (T gs os cs m j : Nat) (pv : Value) (f : Nat → Int) (w : World) : Prop where
  c0 : w.cell? ⟨T, 0, none⟩ = some pv
  c1 : w.cell? ⟨T, 1, none⟩ = some (.slice (some ⟨gs, os, none⟩) j cs)
  fr : w.frozen? ⟨T, 1, none⟩ = false
  st : ∀ i, i < j → w.cell? ⟨gs, os + i, none⟩ = some (.int .i64 (f i))
  th : w.there gs os (m + 1)
  ap : (gs = T ∧ os = 2) ∨ gs ≠ T
  le : m + 1 ≤ cs
  lt : T < w.heap.size ∧ gs < w.heap.size
theorem NT.kept {T gs os cs m j B : Nat} {pv : Value} {f : Nat → Int} {w w' : World} (h : NT T gs os cs m j pv f w) (hb : Below B w w') (hT : T < B) (hg : gs < B) : NT T gs os cs m j pv f w' where
  c0 := (hb.cell (p := ⟨T, 0, none⟩) hT).trans h.c0
  c1 := (hb.cell (p := ⟨T, 1, none⟩) hT).trans h.c1
  fr := (hb.frozen (p := ⟨T, 1, none⟩) hT).trans h.fr
  st := fun i hi => (hb.cell (p := ⟨gs, os + i, none⟩) hg).trans (h.st i hi)
  th := there_below h.th hb hg
  ap := h.ap
  le := h.le
  lt := ⟨Nat.lt_of_lt_of_le h.lt.1 hb.size, Nat.lt_of_lt_of_le h.lt.2 hb.size⟩
theorem off_ne {T gs os i k : Nat} (h : (gs = T ∧ os = 2) ∨ gs ≠ T) (hk : k < 2) : (⟨gs, os + i, none⟩ : Addr) ≠ ⟨T, k, none⟩ := by
  intro e
  have e1 := congrArg Addr.block e
  have e2 := congrArg Addr.off e
  simp at e1 e2
  rcases h with ⟨_, h⟩ | h
  · omega
  · exact h e1
/-- One more start. -/
theorem NT.more {T gs os cs m j : Nat} {pv : Value} {f : Nat → Int} {w : World} (h : NT T gs os cs m j pv f w) (hj : j < m + 1) : NT T gs os cs m (j + 1) pv f ((w.setCell ⟨gs, os + j, none⟩ (.int .i64 (f j))).setCell ⟨T, 1, none⟩ (.slice (some ⟨gs, os, none⟩) (j + 1) cs)) where
  c0 := (World.cell?_setCell_other _ _ _ _ (by simp)).trans ((World.cell?_setCell_other _ _ _ _ (off_ne h.ap (by omega))).trans h.c0)
  c1 := World.cell?_setCell_same _ _ _ ((World.cell?_setCell_other _ _ _ _ (off_ne h.ap (by omega))).trans h.c1)
  fr := by rw [World.frozen?_setCell, World.frozen?_setCell]; exact h.fr
  st := fun i hi => by
    refine (World.cell?_setCell_other _ _ _ _ (fun e => off_ne h.ap (by omega) e.symm)).trans ?_
    by_cases e : i = j
    · subst e
      obtain ⟨u, hu⟩ := Option.isSome_iff_exists.1 (h.th i hj).1
      exact World.cell?_setCell_same _ _ _ hu
    · exact (World.cell?_setCell_other _ _ _ _ (fun e' => e (by have := congrArg Addr.off e'; simp at this; omega))).trans (h.st i (by omega))
  th := World.there_setCells (World.there_setCells h.th gs (os + j) [.int .i64 (f j)]) T 1 [.slice (some ⟨gs, os, none⟩) (j + 1) cs]
  ap := h.ap
  le := h.le
  lt := by simpa [World.setCell] using h.lt
theorem wpList_append_NT {ops : Array Oper} {rest : List Oper} {o : Oper} {a : Act} {w : World} {Q : Exit → Act → World → Prop} (hgd : o.guard = none) (d : Nat) (hd : o.dst = some d) (s x : Operand)
    (ho : o.op = .call { callee := .builtin .append, args := #[s, x], argTypes := #[33, 33] })
    {T gs os cs m j : Nat} {pv : Value} {f : Nat → Int} {w0 : World} (hN : NT T gs os cs m j pv f w0) (hj : j < m + 1) (u : Int) (hu : u = f j) (hw : w = w0.alloc (.cells #[.int .i64 u] 3))
    (hs : a.eval s = .slice (some ⟨gs, os, none⟩) j cs) (c : Nat) (hx : a.eval x = .slice (some ⟨w0.heap.size, 0, none⟩) 1 c)
    (h : ∀ w', w'.cell? ⟨T, 0, none⟩ = some pv → w'.cell? ⟨T, 1, none⟩ = some (.slice (some ⟨gs, os, none⟩) j cs) → w'.frozen? ⟨T, 1, none⟩ = false → Hid (w' = w.setCell ⟨gs, os + j, none⟩ (.int .i64 (f j))) →
      wpList Try.prog ops Q rest ⟨a.tmps.setIfInBounds d (.slice (some ⟨gs, os, none⟩) (j + 1) cs), a.defers⟩ w') : wpList Try.prog ops Q (o :: rest) a w := by
  subst hu
  obtain ⟨i0, hi, hz0, hz1, hz2⟩ := info_parts Try.info3
  have hb : Below w0.heap.size w0 w := by rw [hw]; exact (Below.refl _ _).alloc (Nat.le_refl _) _
  have hN2 := hN.kept hb hN.lt.1 hN.lt.2
  refine wpList_append_room hgd d hd s x 33 ho 3 i0 Try.underlying33 hi hz1 gs os j cs hs ⟨w0.heap.size, 0, none⟩ c (.int .i64 (f j)) hx ?_ rfl (by have := hN.le; omega) (hN2.th j hj).1 (hN2.th j hj).2 (h _ ?_ ?_ ?_ rfl)
  · rw [hw]
    have hbk : (w0.alloc (.cells #[.int .i64 (f j)] 3)).heap[w0.heap.size]? = some (.cells #[.int .i64 (f j)] 3 (0, 0)) := heap_alloc_new _ _
    unfold World.cell?
    simp only [hbk]
    rfl
  · exact (World.cell?_setCell_other _ _ _ _ (off_ne hN.ap (by omega))).trans hN2.c0
  · exact (World.cell?_setCell_other _ _ _ _ (off_ne hN.ap (by omega))).trans hN2.c1
  · rw [World.frozen?_setCell]; exact hN2.fr
theorem PcsIn.set {R : Nat → Prop} {w : World} {v : Value} {n : Nat} {x : Nat → Pc} (h : PcsIn R w v n x) (g o : Nat) (u : Value) (hR : ∀ b, R b → b ≠ g) : PcsIn R (w.setCell ⟨g, o, none⟩ u) v n x := by
  obtain ⟨ao, cap, h1, h2, h3⟩ := h
  refine ⟨ao, cap, h1, h2, fun h0 => ?_⟩
  obtain ⟨b, off, e, hlt, hr⟩ := h3 h0
  exact ⟨b, off, e, hlt, fun j hj => (World.cell?_setCell_other _ _ _ _ (fun e' => hR b hlt (by simpa using (congrArg Addr.block e').symm))).trans (hr j hj)⟩
theorem built47 (ao : Option Addr) (n c : Nat) : Try.prog.built 47 [(0, .slice ao n c)] = some #[.slice ao n c, .slice none 0 0, .int .i64 0, .int .i64 0] := by kernel_rfl
/-- What newText answers. -/
def NewRet (v : Value) (n : Nat) (x : Nat → Pc) (w : World) (e : Ending) (w' : World) : Prop :=
  ∃ T gs os cs pv, e = .returned (.pointer (some ⟨T, 0, none⟩)) ∧ NT T gs os cs (ne x n).length ((ne x n).length + 1) pv (fun j => sumLen ((ne x n).take j)) w' ∧ PcsIn (· < w'.heap.size) w' pv (ne x n).length (nth (ne x n)) ∧ ((∀ i, i < n → (x i).n ≠ 0) → pv = v) ∧ Below w.heap.size w w'
/-- The state of newText behind the choice of the pieces. -/
structure Mid (T n : Nat) (v pv : Value) (x : Nat → Pc) (w w' : World) : Prop where
  blk : w'.heap[T]? = some (.cells #[pv, .slice none 0 0, .int .i64 0, .int .i64 0] 47 (0, 0))
  pcs : PcsIn (fun b => b ≠ T ∧ b < w'.heap.size) w' pv (ne x n).length (nth (ne x n))
  same : (∀ i, i < n → (x i).n ≠ 0) → pv = v
  bel : Below w.heap.size w w'
  eT : w.heap.size ≤ T
set_option maxRecDepth 10000 in
set_option maxHeartbeats 4000000 in
theorem newText_any (v : Value) (n : Nat) (x : Nat → Pc) (w : World) (hv : PcsIn (· < w.heap.size) w v n x) (hn : (n : Int) ≤ 65536) (hsum : (sumLen (ne x n) : Int) ≤ 1048576) :
    Calls Try.prog 20 #[v] w fun e w' => NewRet v n x w e w' := by
  obtain ⟨ao, cap, rfl, hvr⟩ := hv
  have hv : PcsIn (· < w.heap.size) w (.slice ao n cap) n x := ⟨ao, cap, rfl, hvr⟩
  clear hvr
  obtain ⟨w1, hw1⟩ : ∃ w1, w1 = w.alloc (.cells #[.slice ao n cap, .slice none 0 0, .int .i64 0, .int .i64 0] 47) := ⟨_, rfl⟩
  have l1 : Below w.heap.size w w1 := by rw [hw1]; exact (Below.refl _ _).alloc (Nat.le_refl _) _
  have hT1 : w1.heap[w.heap.size]? = some (.cells #[.slice ao n cap, .slice none 0 0, .int .i64 0, .int .i64 0] 47 (0, 0)) := by rw [hw1]; exact heap_alloc_new _ _
  have hs1 : w.heap.size < w1.heap.size := by rw [hw1]; simp
  have HV1 : Hid (PcsIn (fun b => b ≠ w.heap.size ∧ b < w1.heap.size) w1 (.slice ao n cap) n x) := (hv.below l1 (fun _ h => h)).mono (fun b h => ⟨by omega, by omega⟩)
  have HW : Hid (w1 = w.alloc (.cells #[.slice ao n cap, .slice none 0 0, .int .i64 0, .int .i64 0] 47)) := hw1
  have HS : Hid ((sumLen (ne x n) : Int) ≤ 1048576) := hsum
  clear hw1 hv hsum
  have HT1 : Hid (w1.heap[w.heap.size]? = some (.cells #[.slice ao n cap, .slice none 0 0, .int .i64 0, .int .i64 0] 47 (0, 0))) := hT1
  clear hT1
  go_enter Try.func20, Try.ntmps20
  go_wp2_with (first
    | (refine wpList_build_to rfl 47 _ rfl #[.slice ao n cap, .slice none 0 0, .int .i64 0, .int .i64 0] ?_ ?_; · (simp [Act.eval]; exact built47 _ _ _))
    | fail)
  rw [← HW.out]
  refine (containsFunc_any _ n x w1 (HV1.out.mono (fun b h => h.2)) hn).mono ?_
  rintro e w2 ⟨hr, rfl⟩
  rcases hr with ⟨rfl, hall⟩ | ⟨rfl, k0, hk0, hx0⟩
  · have hmid : Mid w.heap.size n (.slice ao n cap) (.slice ao n cap) x w w2 := by
      obtain ⟨h1, h2⟩ := ne_all x n hall
      refine ⟨HT1.out, ?_, fun _ => rfl, l1, Nat.le_refl _⟩
      obtain ⟨ao', cap', e', hn', hc'⟩ := HV1.out
      obtain ⟨rfl, rfl⟩ : ao = ao' ∧ cap = cap' := by simpa using e'
      rw [h1]
      refine ⟨ao, cap, rfl, hn', fun h0 => ?_⟩
      obtain ⟨b, off, e, hb, hr⟩ := hc' h0
      exact ⟨b, off, e, hb, fun i hi => by rw [nth_of (h2 i hi)]; exact hr i hi⟩
    clear hall HT1 HV1
    have hmm : (ne x n).length ≤ n := ne_le x n
    obtain ⟨pv, hmid⟩ : ∃ pv, Mid w.heap.size n (.slice ao n cap) pv x w w2 := ⟨_, hmid⟩
    obtain ⟨ap, cp, hpv, _, _⟩ := hmid.pcs
    subst hpv
    have hblk := hmid.blk
    have HMid : Hid (Mid w.heap.size n (.slice ao n cap) (.slice ap (ne x n).length cp) x w w2) := hmid
    have hsT : w.heap.size < w2.heap.size := (Array.getElem?_eq_some_iff.1 hblk).1
    clear hmid
    have hc0 : w2.cell? ⟨w.heap.size, 0, none⟩ = some (.slice ap (ne x n).length cp) := by simp [World.cell?, hblk]
    have hc1 : w2.cell? ⟨w.heap.size, 1, none⟩ = some (.slice none 0 0) := by simp [World.cell?, hblk]
    have hf1 : w2.frozen? ⟨w.heap.size, 1, none⟩ = false := by simp [World.frozen?, hblk]
    have hth : w2.there w.heap.size 2 2 := fun j hj => by
      have : j = 0 ∨ j = 1 := by omega
      rcases this with rfl | rfl <;> simp [World.cell?, World.frozen?, hblk]
    clear hblk
    have hmi : ((ne x n).length : Int) ≤ 65536 := by omega
    by_cases hm1 : 1 < (ne x n).length
    · obtain ⟨i0, hi, hz0, hz1, hz2⟩ := info_parts Try.info3
      generalize hm : (ne x n).length = m at *
      have HM : Hid ((ne x n).length = m) := hm
      clear hm hth
      go_wp2_with (at_make; refine wpList_make_own _ rfl _ _ 33 rfl w.heap.size 3 i0 _ 1 Try.underlying33 hi hz0 hz1 _ _ _ (m + 1) rfl rfl (by omega) (by rw [hz2]; omega) (by unfold maxLen; omega) (by simp; omega) ?_)
      intro w4 hown hgrow
      have hsz4 : w2.heap.size < w4.heap.size := by have := (hown.lt _ rfl).2; simpa [World.setCell] using this
      have lA : Below w.heap.size w2 (w2.setCell ⟨w.heap.size, 1, none⟩ (.slice (some ⟨w.heap.size, 2, none⟩) 0 2)) := (Below.refl _ _).setCell (p := ⟨w.heap.size, 1, none⟩) (Nat.le_refl _) _
      have l4 : Below w2.heap.size (w2.setCell ⟨w.heap.size, 1, none⟩ (.slice (some ⟨w.heap.size, 2, none⟩) 0 2)) w4 := (Below.refl _ _).grown hgrow (by simp [World.setCell]) (fun k h => by cases h)
      have hd0 : w4.cell? ⟨w.heap.size, 0, none⟩ = some (.slice ap m cp) := (l4.cell (p := ⟨w.heap.size, 0, none⟩) hsT).trans ((World.cell?_setCell_other _ _ _ _ (by simp)).trans hc0)
      have hd1 : w4.cell? ⟨w.heap.size, 1, none⟩ = some (.slice (some ⟨w.heap.size, 2, none⟩) 0 2) := (l4.cell (p := ⟨w.heap.size, 1, none⟩) hsT).trans (World.cell?_setCell_same _ _ _ hc1)
      have hdf : w4.frozen? ⟨w.heap.size, 1, none⟩ = false := (l4.frozen (p := ⟨w.heap.size, 1, none⟩) hsT).trans (by rw [World.frozen?_setCell]; exact hf1)
      have ht4 : w4.there w2.heap.size 0 (m + 1) := by
        have hh := hown.2
        rcases hh with ⟨h, _⟩ | ⟨g0, c0, cur, e0, _, hg0, _, _, hcs, _⟩
        · simp at h
        · simp at e0
          obtain ⟨e1, e2⟩ := e0
          subst e2
          intro j hj
          have hgb : w4.heap[w2.heap.size]? = some (.cells cur 3 (0, 0)) := by rw [e1]; exact hg0
          have hjc : j < cur.size := by omega
          simp [World.cell?, World.frozen?, hgb, hjc]
      clear hown hgrow hi hz0 hz1 hz2 hc0 hc1 hf1
      clear i0
      go_wp2_with (fail)
      obtain ⟨wS, hwS⟩ : ∃ wS, wS = w4.setCell ⟨w.heap.size, 1, none⟩ (.slice (some ⟨w2.heap.size, 0, none⟩) 0 (m + 1)) := ⟨_, rfl⟩
      rw [← hwS]
      have hsS : wS.heap.size = w4.heap.size := by rw [hwS]; simp [World.setCell]
      have hNS : NT w.heap.size w2.heap.size 0 (m + 1) m 0 (.slice ap m cp) (fun j => sumLen ((ne x n).take j)) wS := by
        rw [hwS]
        exact ⟨(World.cell?_setCell_other _ _ _ _ (by simp)).trans hd0, World.cell?_setCell_same _ _ _ hd1, by rw [World.frozen?_setCell]; exact hdf, fun i hi => absurd hi (by omega), World.there_setCells ht4 _ _ [_], Or.inr (by omega), by omega, by simp only [World.setCell, Array.size_modify]; omega⟩
      have hPS : PcsIn (fun b => b ≠ w.heap.size ∧ b ≠ w2.heap.size ∧ b < wS.heap.size) wS (.slice ap m cp) m (nth (ne x n)) := by
        rw [hsS, hwS]
        have hp := HMid.out.pcs
        rw [HM.out] at hp
        exact (((hp.set w.heap.size 1 _ (fun b h => h.1)).below l4 (fun b h => h.2)).set w.heap.size 1 _ (fun b h => h.1)).mono (fun b h => by omega)
      have hBS : Below w.heap.size w wS := by
        rw [hwS]
        exact ((HMid.out.bel.trans lA).trans (l4.mono (by omega))).setCell (p := ⟨w.heap.size, 1, none⟩) (Nat.le_refl _) _
      have HSame : Hid ((∀ i, i < n → (x i).n ≠ 0) → (.slice ap m cp : Value) = .slice ao n cap) := HMid.out.same
      clear hwS hsS HMid hd0 hd1 hdf ht4 lA l4
      obtain ⟨i0, hi, hz0, hz1, hz2⟩ := info_parts Try.info3
      clear hz0 hz2
      go_loopw [4, 46] (fun t i wr => ∃ j : Nat, j ≤ m ∧ i = .int .i64 j ∧ t = .int .i64 (sumLen ((ne x n).take j) : Nat) ∧ NT w.heap.size w2.heap.size 0 (m + 1) m j (.slice ap m cp) (fun j => sumLen ((ne x n).take j)) wr ∧ PcsIn (fun b => b ≠ w.heap.size ∧ b ≠ w2.heap.size ∧ b < wS.heap.size) wr (.slice ap m cp) m (nth (ne x n)) ∧ Below w.heap.size w wr ∧ wS.heap.size ≤ wr.heap.size) (fun _ i _ => m - (intOf i).toNat)
      case atStart => exact ⟨0, by omega, rfl, by simp [sumLen], hNS, hPS, hBS, Nat.le_refl _⟩
      case round =>
        obtain ⟨j, hj, rfl, rfl, hN, hP, mB, hz⟩ := hrel
        obtain ⟨wo, rfl⟩ : ∃ x, x = wr := ⟨_, rfl⟩
        clear hNS hPS hBS
        have hlt2 := hN.lt
        have hb1 : Below wo.heap.size wo (wo.alloc (.cells #[.int .i64 (sumLen ((ne x n).take j) : Nat)] 3)) := (Below.refl _ _).alloc (Nat.le_refl _) _
        have hT1 := (hb1.cell (p := ⟨w.heap.size, 1, none⟩) hlt2.1).trans hN.c1
        have hT1' := hN.c1
        have HP : Hid (PcsIn (fun b => b ≠ w.heap.size ∧ b ≠ w2.heap.size ∧ b < wS.heap.size) wo (.slice ap m cp) m (nth (ne x n))) := hP
        clear hP
        by_cases hlt : j < m
        · obtain ⟨ap', cp', e', _, hpc⟩ := HP.out
          obtain ⟨rfl, rfl⟩ : ap = ap' ∧ cp = cp' := by simpa using e'
          obtain ⟨b, off, e, hbB, hrow⟩ := hpc (by omega)
          subst e
          have hcj := hrow j hlt
          unfold Pc.v at hcj
          have HT : Hid (sumLen ((ne x n).take (j + 1)) = sumLen ((ne x n).take j) + (nth (ne x n) j).n) := sumLen_take (by rw [HM.out]; exact hlt)
          have hle : ((sumLen ((ne x n).take j) + (nth (ne x n) j).n : Nat) : Int) ≤ 1048576 := by
            have h1 : sumLen (ne x n) = sumLen ((ne x n).take (j + 1)) + sumLen ((ne x n).drop (j + 1)) := by rw [← sumLen_append, List.take_append_drop]
            have h2 := HS.out
            have h3 := HT.out
            omega
          clear hpc hrow e'
          go_wp2_with (first
            | (at_builtin; refine wpList_append_NT rfl 57 rfl (.tmp 54) (.tmp 56) rfl hN (by omega) _ rfl rfl rfl 1 rfl ?_; intro wq hq0 hq1 hqf HQ)
            | fail)
          go_roundw
          case rel =>
            have hq := HQ.out
            subst hq
            have hN3 := (hN.kept hb1 hlt2.1 hlt2.2).more (show j < m + 1 by omega)
            refine ⟨j + 1, by omega, by go_num, by rw [HT.out]; simp, hN3, ?_, ?_, ?_⟩
            · exact (((HP.out.below hb1 (fun b h => by omega)).set _ _ _ (fun b h => h.2.1)).set _ _ _ (fun b h => h.1))
            · exact (((mB.trans (hb1.mono mB.size)).setCell (p := ⟨w2.heap.size, 0 + j, none⟩) (by show _ ≤ w2.heap.size; omega) _)).setCell (p := ⟨w.heap.size, 1, none⟩) (Nat.le_refl _) _
            · simp [World.setCell]; omega
          case measure => simp [intOf]; omega
        · obtain rfl : m = j := by omega
          go_wp2_with (first
            | (at_builtin; refine wpList_append_NT rfl 72 rfl (.tmp 69) (.tmp 71) rfl hN (by omega) _ rfl rfl rfl 1 rfl ?_; intro wq hq0 hq1 hqf HQ)
            | fail)
          go_ret
          have hq := HQ.out
          subst hq
          have hN3 := (hN.kept hb1 hlt2.1 hlt2.2).more (show m < m + 1 by omega)
          have hP3 := (((HP.out.below hb1 (fun b h => by omega)).set w2.heap.size (0 + m) (.int .i64 (sumLen ((ne x n).take m) : Nat)) (fun b h => h.2.1)).set w.heap.size 1 (.slice (some ⟨w2.heap.size, 0, none⟩) (m + 1) (m + 1)) (fun b h => h.1))
          refine ⟨w.heap.size, w2.heap.size, 0, (m + 1), .slice ap m cp, rfl, ?_, ?_, HSame.out, ?_⟩
          · rw [HM.out]; exact hN3
          · rw [HM.out]; exact hP3.mono (fun b h => Nat.lt_of_lt_of_le h.2.2 (by simp [World.setCell]; omega))
          · exact (((mB.trans (hb1.mono mB.size)).setCell (p := ⟨w2.heap.size, 0 + m, none⟩) (by show _ ≤ w2.heap.size; omega) _)).setCell (p := ⟨w.heap.size, 1, none⟩) (Nat.le_refl _) _
    · generalize hm : (ne x n).length = m at *
      have HM : Hid ((ne x n).length = m) := hm
      clear hm
      go_wp2_with (fail)
      obtain ⟨wS, hwS⟩ : ∃ wS, wS = w2.setCell ⟨w.heap.size, 1, none⟩ (.slice (some ⟨w.heap.size, 2, none⟩) 0 2) := ⟨_, rfl⟩
      rw [← hwS]
      have hsS : wS.heap.size = w2.heap.size := by rw [hwS]; simp [World.setCell]
      have hNS : NT w.heap.size w.heap.size 2 2 m 0 (.slice ap m cp) (fun j => sumLen ((ne x n).take j)) wS := by
        rw [hwS]
        exact ⟨(World.cell?_setCell_other _ _ _ _ (by simp)).trans hc0, World.cell?_setCell_same _ _ _ hc1, by rw [World.frozen?_setCell]; exact hf1, fun i hi => absurd hi (by omega), World.there_setCells (fun j hj => hth j (by omega)) _ _ [_], Or.inl ⟨rfl, rfl⟩, by omega, by simp only [World.setCell, Array.size_modify]; omega⟩
      have hPS : PcsIn (fun b => b ≠ w.heap.size ∧ b ≠ w.heap.size ∧ b < wS.heap.size) wS (.slice ap m cp) m (nth (ne x n)) := by
        rw [hsS, hwS]
        have hp := HMid.out.pcs
        rw [HM.out] at hp
        exact (hp.set w.heap.size 1 _ (fun b h => h.1)).mono (fun b h => by omega)
      have hBS : Below w.heap.size w wS := by
        rw [hwS]
        exact HMid.out.bel.setCell (p := ⟨w.heap.size, 1, none⟩) (Nat.le_refl _) _
      have HSame : Hid ((∀ i, i < n → (x i).n ≠ 0) → (.slice ap m cp : Value) = .slice ao n cap) := HMid.out.same
      clear hwS hsS HMid hc0 hc1 hf1 hth
      obtain ⟨i0, hi, hz0, hz1, hz2⟩ := info_parts Try.info3
      clear hz0 hz2
      go_loopw [4, 46] (fun t i wr => ∃ j : Nat, j ≤ m ∧ i = .int .i64 j ∧ t = .int .i64 (sumLen ((ne x n).take j) : Nat) ∧ NT w.heap.size w.heap.size 2 2 m j (.slice ap m cp) (fun j => sumLen ((ne x n).take j)) wr ∧ PcsIn (fun b => b ≠ w.heap.size ∧ b ≠ w.heap.size ∧ b < wS.heap.size) wr (.slice ap m cp) m (nth (ne x n)) ∧ Below w.heap.size w wr ∧ wS.heap.size ≤ wr.heap.size) (fun _ i _ => m - (intOf i).toNat)
      case atStart => exact ⟨0, by omega, rfl, by simp [sumLen], hNS, hPS, hBS, Nat.le_refl _⟩
      case round =>
        obtain ⟨j, hj, rfl, rfl, hN, hP, mB, hz⟩ := hrel
        obtain ⟨wo, rfl⟩ : ∃ x, x = wr := ⟨_, rfl⟩
        clear hNS hPS hBS
        have hlt2 := hN.lt
        have hb1 : Below wo.heap.size wo (wo.alloc (.cells #[.int .i64 (sumLen ((ne x n).take j) : Nat)] 3)) := (Below.refl _ _).alloc (Nat.le_refl _) _
        have hT1 := (hb1.cell (p := ⟨w.heap.size, 1, none⟩) hlt2.1).trans hN.c1
        have hT1' := hN.c1
        have HP : Hid (PcsIn (fun b => b ≠ w.heap.size ∧ b ≠ w.heap.size ∧ b < wS.heap.size) wo (.slice ap m cp) m (nth (ne x n))) := hP
        clear hP
        by_cases hlt : j < m
        · obtain ⟨ap', cp', e', _, hpc⟩ := HP.out
          obtain ⟨rfl, rfl⟩ : ap = ap' ∧ cp = cp' := by simpa using e'
          obtain ⟨b, off, e, hbB, hrow⟩ := hpc (by omega)
          subst e
          have hcj := hrow j hlt
          unfold Pc.v at hcj
          have HT : Hid (sumLen ((ne x n).take (j + 1)) = sumLen ((ne x n).take j) + (nth (ne x n) j).n) := sumLen_take (by rw [HM.out]; exact hlt)
          have hle : ((sumLen ((ne x n).take j) + (nth (ne x n) j).n : Nat) : Int) ≤ 1048576 := by
            have h1 : sumLen (ne x n) = sumLen ((ne x n).take (j + 1)) + sumLen ((ne x n).drop (j + 1)) := by rw [← sumLen_append, List.take_append_drop]
            have h2 := HS.out
            have h3 := HT.out
            omega
          clear hpc hrow e'
          go_wp2_with (first
            | (at_builtin; refine wpList_append_NT rfl 57 rfl (.tmp 54) (.tmp 56) rfl hN (by omega) _ rfl rfl rfl 1 rfl ?_; intro wq hq0 hq1 hqf HQ)
            | fail)
          go_roundw
          case rel =>
            have hq := HQ.out
            subst hq
            have hN3 := (hN.kept hb1 hlt2.1 hlt2.2).more (show j < m + 1 by omega)
            refine ⟨j + 1, by omega, by go_num, by rw [HT.out]; simp, hN3, ?_, ?_, ?_⟩
            · exact (((HP.out.below hb1 (fun b h => by omega)).set _ _ _ (fun b h => h.2.1)).set _ _ _ (fun b h => h.1))
            · exact (((mB.trans (hb1.mono mB.size)).setCell (p := ⟨w.heap.size, 2 + j, none⟩) (Nat.le_refl _) _)).setCell (p := ⟨w.heap.size, 1, none⟩) (Nat.le_refl _) _
            · simp [World.setCell]; omega
          case measure => simp [intOf]; omega
        · obtain rfl : m = j := by omega
          go_wp2_with (first
            | (at_builtin; refine wpList_append_NT rfl 72 rfl (.tmp 69) (.tmp 71) rfl hN (by omega) _ rfl rfl rfl 1 rfl ?_; intro wq hq0 hq1 hqf HQ)
            | fail)
          go_ret
          have hq := HQ.out
          subst hq
          have hN3 := (hN.kept hb1 hlt2.1 hlt2.2).more (show m < m + 1 by omega)
          have hP3 := (((HP.out.below hb1 (fun b h => by omega)).set w.heap.size (2 + m) (.int .i64 (sumLen ((ne x n).take m) : Nat)) (fun b h => h.2.1)).set w.heap.size 1 (.slice (some ⟨w.heap.size, 2, none⟩) (m + 1) 2) (fun b h => h.1))
          refine ⟨w.heap.size, w.heap.size, 2, 2, .slice ap m cp, rfl, ?_, ?_, HSame.out, ?_⟩
          · rw [HM.out]; exact hN3
          · rw [HM.out]; exact hP3.mono (fun b h => Nat.lt_of_lt_of_le h.2.2 (by simp [World.setCell]; omega))
          · exact (((mB.trans (hb1.mono mB.size)).setCell (p := ⟨w.heap.size, 2 + m, none⟩) (Nat.le_refl _) _)).setCell (p := ⟨w.heap.size, 1, none⟩) (Nat.le_refl _) _
  · have hn0 : 0 < n := by omega
    obtain ⟨ao', cap', e', _, hc'⟩ := HV1.out
    obtain ⟨rfl, rfl⟩ : ao = ao' ∧ cap = cap' := by simpa using e'
    obtain ⟨b0, off0, e0, hb0, hrow0⟩ := hc' hn0
    subst e0
    have HR0 : Hid (∀ i, i < n → w2.cell? ⟨b0, off0 + i, none⟩ = some (x i).v) := hrow0
    have HX0 : Hid ((x k0).n = 0) := hx0
    clear hc' hrow0 hx0 e'
    go_wp2_with (fail)
    refine (slClone_any b0 off0 n cap x w2 HR0.out hb0.2 hn hn0).mono ?_
    rintro e w3 ⟨⟨g, cg, rfl, hge, hown⟩, hb3⟩
    have HO : Hid (w3.ownsRow w2.heap.size 27 1 (.slice (some ⟨g, 0, none⟩) n cg) n (plist x n)) := hown
    have hg3 : g < w3.heap.size := (hown.lt g rfl).2
    have hth3 := there_of_owns hown
    rw [Nat.mul_one] at hth3
    have hncg : (n : Int) ≤ cg := by
      rcases hown.2 with ⟨h, _⟩ | ⟨g0, c0, cur, e1, _, _, hle, _⟩
      · simp at h
      · simp at e1; omega
    have hcell3 : Hid (∀ i, i < n → w3.cell? ⟨g, i, none⟩ = some (x i).v) := fun i hi => (hown.cellAt i (by omega)).trans (plist_get x n i hi)
    clear hown
    go_wp2_with (fail)
    refine (deleteFunc_any g n cg x w3 hg3 hth3 hcell3.out hncg hn k0 hk0 HX0.out).mono ?_
    rintro e w5 ⟨rfl, hL5, hb5, hs5⟩
    have hT5 : w5.heap[w.heap.size]? = some (.cells #[.slice (some ⟨b0, off0, none⟩) n cap, .slice none 0 0, .int .i64 0, .int .i64 0] 47 (0, 0)) := (hb5.block _ (by omega)).trans ((hb3.block _ hs1).trans HT1.out)
    have hv0 : w5.cell? ⟨w.heap.size, 0, none⟩ = some (.slice (some ⟨b0, off0, none⟩) n cap) := by simp [World.cell?, hT5]
    have hv1 : w5.cell? ⟨w.heap.size, 1, none⟩ = some (.slice none 0 0) := by simp [World.cell?, hT5]
    have hvf0 : w5.frozen? ⟨w.heap.size, 0, none⟩ = false := by simp [World.frozen?, hT5]
    have hvf1 : w5.frozen? ⟨w.heap.size, 1, none⟩ = false := by simp [World.frozen?, hT5]
    have hmid : Mid w.heap.size n (.slice (some ⟨b0, off0, none⟩) n cap) (.slice (some ⟨g, 0, none⟩) (ne x n).length cg) x w (w5.setCell ⟨w.heap.size, 0, none⟩ (.slice (some ⟨g, 0, none⟩) (ne x n).length cg)) := by
      refine ⟨(heap_setCell_same w5 _ 0 _ 47 _ hT5).trans rfl, ⟨some ⟨g, 0, none⟩, cg, rfl, (fun h => by cases h), fun _ => ⟨g, 0, rfl, ⟨by omega, by simp [World.setCell]; omega⟩, fun i hi => ?_⟩⟩, fun h => absurd HX0.out (h k0 hk0), ?_, Nat.le_refl _⟩
      · rw [Nat.zero_add]
        exact (World.cell?_setCell_other _ _ _ _ (fun e => by have := congrArg Addr.block e; simp at this; omega)).trans (hL5 i _ (get_nth hi))
      · exact (l1.trans ((hb3.mono (by omega)).trans (hb5.mono (by omega)))).setCell (p := ⟨w.heap.size, 0, none⟩) (Nat.le_refl _) _
    have hz5 : w.heap.size < w5.heap.size := by omega
    have hz6 : g < w5.heap.size := by omega
    clear hT5 hL5 hb5 hs5 hcell3 hth3 hb3 HO HR0 HT1 HV1
    have hmm : (ne x n).length ≤ n := ne_le x n
    have hblk := hmid.blk
    have HMid : Hid (Mid w.heap.size n (.slice (some ⟨b0, off0, none⟩) n cap) (.slice (some ⟨g, 0, none⟩) (ne x n).length cg) x w (w5.setCell ⟨w.heap.size, 0, none⟩ (.slice (some ⟨g, 0, none⟩) (ne x n).length cg))) := hmid
    have hsT : w.heap.size < (w5.setCell ⟨w.heap.size, 0, none⟩ (.slice (some ⟨g, 0, none⟩) (ne x n).length cg)).heap.size := (Array.getElem?_eq_some_iff.1 hblk).1
    clear hmid
    have hc0 : (w5.setCell ⟨w.heap.size, 0, none⟩ (.slice (some ⟨g, 0, none⟩) (ne x n).length cg)).cell? ⟨w.heap.size, 0, none⟩ = some (.slice (some ⟨g, 0, none⟩) (ne x n).length cg) := by simp [World.cell?, hblk]
    have hc1 : (w5.setCell ⟨w.heap.size, 0, none⟩ (.slice (some ⟨g, 0, none⟩) (ne x n).length cg)).cell? ⟨w.heap.size, 1, none⟩ = some (.slice none 0 0) := by simp [World.cell?, hblk]
    have hf1 : (w5.setCell ⟨w.heap.size, 0, none⟩ (.slice (some ⟨g, 0, none⟩) (ne x n).length cg)).frozen? ⟨w.heap.size, 1, none⟩ = false := by simp [World.frozen?, hblk]
    have hth : (w5.setCell ⟨w.heap.size, 0, none⟩ (.slice (some ⟨g, 0, none⟩) (ne x n).length cg)).there w.heap.size 2 2 := fun j hj => by
      have : j = 0 ∨ j = 1 := by omega
      rcases this with rfl | rfl <;> simp [World.cell?, World.frozen?, hblk]
    clear hblk
    replace hc0 : Hid _ := hc0
    replace hc1 : Hid _ := hc1
    replace hf1 : Hid _ := hf1
    have hmi : ((ne x n).length : Int) ≤ 65536 := by omega
    by_cases hm1 : 1 < (ne x n).length
    · obtain ⟨i0, hi, hz0, hz1, hz2⟩ := info_parts Try.info3
      generalize hm : (ne x n).length = m at *
      have HM : Hid ((ne x n).length = m) := hm
      clear hm hth
      go_wp2_with (at_make; refine wpList_make_own _ rfl _ _ 33 rfl w.heap.size 3 i0 _ 1 Try.underlying33 hi hz0 hz1 _ _ _ (m + 1) rfl rfl (by omega) (by rw [hz2]; omega) (by unfold maxLen; omega) (by simp; omega) ?_)
      intro w4 hown hgrow
      have hsz4 : w5.heap.size < w4.heap.size := by have := (hown.lt _ rfl).2; simpa [World.setCell] using this
      have lA : Below w.heap.size (w5.setCell ⟨w.heap.size, 0, none⟩ (.slice (some ⟨g, 0, none⟩) m cg)) ((w5.setCell ⟨w.heap.size, 0, none⟩ (.slice (some ⟨g, 0, none⟩) m cg)).setCell ⟨w.heap.size, 1, none⟩ (.slice (some ⟨w.heap.size, 2, none⟩) 0 2)) := (Below.refl _ _).setCell (p := ⟨w.heap.size, 1, none⟩) (Nat.le_refl _) _
      have l4 : Below w5.heap.size ((w5.setCell ⟨w.heap.size, 0, none⟩ (.slice (some ⟨g, 0, none⟩) m cg)).setCell ⟨w.heap.size, 1, none⟩ (.slice (some ⟨w.heap.size, 2, none⟩) 0 2)) w4 := (Below.refl _ _).grown hgrow (by simp [World.setCell]) (fun k h => by cases h)
      have hd0 : w4.cell? ⟨w.heap.size, 0, none⟩ = some (.slice (some ⟨g, 0, none⟩) m cg) := (l4.cell (p := ⟨w.heap.size, 0, none⟩) hz5).trans ((World.cell?_setCell_other _ _ _ _ (by simp)).trans hc0)
      have hd1 : w4.cell? ⟨w.heap.size, 1, none⟩ = some (.slice (some ⟨w.heap.size, 2, none⟩) 0 2) := (l4.cell (p := ⟨w.heap.size, 1, none⟩) hz5).trans (World.cell?_setCell_same _ _ _ hc1)
      have hdf : w4.frozen? ⟨w.heap.size, 1, none⟩ = false := (l4.frozen (p := ⟨w.heap.size, 1, none⟩) hz5).trans (by rw [World.frozen?_setCell]; exact hf1)
      have ht4 : w4.there w5.heap.size 0 (m + 1) := by
        have hh := hown.2
        rcases hh with ⟨h, _⟩ | ⟨g0, c0, cur, e0, _, hg0, _, _, hcs, _⟩
        · simp at h
        · simp at e0
          obtain ⟨e1, e2⟩ := e0
          subst e2
          intro j hj
          have hgb : w4.heap[w5.heap.size]? = some (.cells cur 3 (0, 0)) := by rw [e1]; exact hg0
          have hjc : j < cur.size := by omega
          simp [World.cell?, World.frozen?, hgb, hjc]
      clear hown hgrow hi hz0 hz1 hz2 hc0 hc1 hf1
      clear i0
      go_wp2_with (fail)
      obtain ⟨wS, hwS⟩ : ∃ wS, wS = w4.setCell ⟨w.heap.size, 1, none⟩ (.slice (some ⟨w5.heap.size, 0, none⟩) 0 (m + 1)) := ⟨_, rfl⟩
      rw [← hwS]
      have hsS : wS.heap.size = w4.heap.size := by rw [hwS]; simp [World.setCell]
      have hNS : NT w.heap.size w5.heap.size 0 (m + 1) m 0 (.slice (some ⟨g, 0, none⟩) m cg) (fun j => sumLen ((ne x n).take j)) wS := by
        rw [hwS]
        exact ⟨(World.cell?_setCell_other _ _ _ _ (by simp)).trans hd0, World.cell?_setCell_same _ _ _ hd1, by rw [World.frozen?_setCell]; exact hdf, fun i hi => absurd hi (by omega), World.there_setCells ht4 _ _ [_], Or.inr (by omega), by omega, by simp only [World.setCell, Array.size_modify]; omega⟩
      have hPS : PcsIn (fun b => b ≠ w.heap.size ∧ b ≠ w5.heap.size ∧ b < wS.heap.size) wS (.slice (some ⟨g, 0, none⟩) m cg) m (nth (ne x n)) := by
        rw [hsS, hwS]
        have hp := HMid.out.pcs
        rw [HM.out] at hp
        replace hp := hp.mono (fun b h => (⟨h.1, by have := h.2; simpa [World.setCell] using this⟩ : b ≠ w.heap.size ∧ b < w5.heap.size))
        exact (((hp.set w.heap.size 1 _ (fun b h => h.1)).below l4 (fun b h => h.2)).set w.heap.size 1 _ (fun b h => h.1)).mono (fun b h => by omega)
      have hBS : Below w.heap.size w wS := by
        rw [hwS]
        exact ((HMid.out.bel.trans lA).trans (l4.mono (by omega))).setCell (p := ⟨w.heap.size, 1, none⟩) (Nat.le_refl _) _
      have HSame : Hid ((∀ i, i < n → (x i).n ≠ 0) → (.slice (some ⟨g, 0, none⟩) m cg : Value) = .slice (some ⟨b0, off0, none⟩) n cap) := HMid.out.same
      clear hwS hsS HMid hv0 hv1 hvf0 hvf1 hd0 hd1 hdf ht4 lA l4
      obtain ⟨i0, hi, hz0, hz1, hz2⟩ := info_parts Try.info3
      clear hz0 hz2
      go_loopw [4, 46] (fun t i wr => ∃ j : Nat, j ≤ m ∧ i = .int .i64 j ∧ t = .int .i64 (sumLen ((ne x n).take j) : Nat) ∧ NT w.heap.size w5.heap.size 0 (m + 1) m j (.slice (some ⟨g, 0, none⟩) m cg) (fun j => sumLen ((ne x n).take j)) wr ∧ PcsIn (fun b => b ≠ w.heap.size ∧ b ≠ w5.heap.size ∧ b < wS.heap.size) wr (.slice (some ⟨g, 0, none⟩) m cg) m (nth (ne x n)) ∧ Below w.heap.size w wr ∧ wS.heap.size ≤ wr.heap.size) (fun _ i _ => m - (intOf i).toNat)
      case atStart => exact ⟨0, by omega, rfl, by simp [sumLen], hNS, hPS, hBS, Nat.le_refl _⟩
      case round =>
        obtain ⟨j, hj, rfl, rfl, hN, hP, mB, hz⟩ := hrel
        obtain ⟨wo, rfl⟩ : ∃ x, x = wr := ⟨_, rfl⟩
        clear hNS hPS hBS
        have hlt2 := hN.lt
        have hb1 : Below wo.heap.size wo (wo.alloc (.cells #[.int .i64 (sumLen ((ne x n).take j) : Nat)] 3)) := (Below.refl _ _).alloc (Nat.le_refl _) _
        have hT1 := (hb1.cell (p := ⟨w.heap.size, 1, none⟩) hlt2.1).trans hN.c1
        have hT1' := hN.c1
        have HP : Hid (PcsIn (fun b => b ≠ w.heap.size ∧ b ≠ w5.heap.size ∧ b < wS.heap.size) wo (.slice (some ⟨g, 0, none⟩) m cg) m (nth (ne x n))) := hP
        clear hP
        by_cases hlt : j < m
        · obtain ⟨ap', cp', e', _, hpc⟩ := HP.out
          obtain ⟨rfl, rfl⟩ : (some ⟨g, 0, none⟩) = ap' ∧ cg = cp' := by simpa using e'
          obtain ⟨b, off, e, hbB, hrow⟩ := hpc (by omega)
          obtain ⟨rfl, rfl⟩ : b = g ∧ off = 0 := by simp at e; exact ⟨e.1.symm, e.2.symm⟩
          have hcj := hrow j hlt
          simp only [Nat.zero_add] at hcj
          unfold Pc.v at hcj
          have HT : Hid (sumLen ((ne x n).take (j + 1)) = sumLen ((ne x n).take j) + (nth (ne x n) j).n) := sumLen_take (by rw [HM.out]; exact hlt)
          have hle : ((sumLen ((ne x n).take j) + (nth (ne x n) j).n : Nat) : Int) ≤ 1048576 := by
            have h1 : sumLen (ne x n) = sumLen ((ne x n).take (j + 1)) + sumLen ((ne x n).drop (j + 1)) := by rw [← sumLen_append, List.take_append_drop]
            have h2 := HS.out
            have h3 := HT.out
            omega
          clear hpc hrow e'
          go_wp2_with (first
            | (at_builtin; refine wpList_append_NT rfl 57 rfl (.tmp 54) (.tmp 56) rfl hN (by omega) _ rfl rfl rfl 1 rfl ?_; intro wq hq0 hq1 hqf HQ)
            | fail)
          go_roundw
          case rel =>
            have hq := HQ.out
            subst hq
            have hN3 := (hN.kept hb1 hlt2.1 hlt2.2).more (show j < m + 1 by omega)
            refine ⟨j + 1, by omega, by go_num, by rw [HT.out]; simp, hN3, ?_, ?_, ?_⟩
            · exact (((HP.out.below hb1 (fun b h => by omega)).set _ _ _ (fun b h => h.2.1)).set _ _ _ (fun b h => h.1))
            · exact (((mB.trans (hb1.mono mB.size)).setCell (p := ⟨w5.heap.size, 0 + j, none⟩) (by show _ ≤ w5.heap.size; omega) _)).setCell (p := ⟨w.heap.size, 1, none⟩) (Nat.le_refl _) _
            · simp [World.setCell]; omega
          case measure => simp [intOf]; omega
        · obtain rfl : m = j := by omega
          go_wp2_with (first
            | (at_builtin; refine wpList_append_NT rfl 72 rfl (.tmp 69) (.tmp 71) rfl hN (by omega) _ rfl rfl rfl 1 rfl ?_; intro wq hq0 hq1 hqf HQ)
            | fail)
          go_ret
          have hq := HQ.out
          subst hq
          have hN3 := (hN.kept hb1 hlt2.1 hlt2.2).more (show m < m + 1 by omega)
          have hP3 := (((HP.out.below hb1 (fun b h => by omega)).set w5.heap.size (0 + m) (.int .i64 (sumLen ((ne x n).take m) : Nat)) (fun b h => h.2.1)).set w.heap.size 1 (.slice (some ⟨w5.heap.size, 0, none⟩) (m + 1) (m + 1)) (fun b h => h.1))
          refine ⟨w.heap.size, w5.heap.size, 0, (m + 1), .slice (some ⟨g, 0, none⟩) m cg, rfl, ?_, ?_, HSame.out, ?_⟩
          · rw [HM.out]; exact hN3
          · rw [HM.out]; exact hP3.mono (fun b h => Nat.lt_of_lt_of_le h.2.2 (by simp [World.setCell]; omega))
          · exact (((mB.trans (hb1.mono mB.size)).setCell (p := ⟨w5.heap.size, 0 + m, none⟩) (by show _ ≤ w5.heap.size; omega) _)).setCell (p := ⟨w.heap.size, 1, none⟩) (Nat.le_refl _) _
    · generalize hm : (ne x n).length = m at *
      have HM : Hid ((ne x n).length = m) := hm
      clear hm
      go_wp2_with (fail)
      obtain ⟨wS, hwS⟩ : ∃ wS, wS = (w5.setCell ⟨w.heap.size, 0, none⟩ (.slice (some ⟨g, 0, none⟩) m cg)).setCell ⟨w.heap.size, 1, none⟩ (.slice (some ⟨w.heap.size, 2, none⟩) 0 2) := ⟨_, rfl⟩
      rw [← hwS]
      have hsS : wS.heap.size = w5.heap.size := by rw [hwS]; simp [World.setCell]
      have hNS : NT w.heap.size w.heap.size 2 2 m 0 (.slice (some ⟨g, 0, none⟩) m cg) (fun j => sumLen ((ne x n).take j)) wS := by
        rw [hwS]
        exact ⟨(World.cell?_setCell_other _ _ _ _ (by simp)).trans hc0, World.cell?_setCell_same _ _ _ hc1, by rw [World.frozen?_setCell]; exact hf1, fun i hi => absurd hi (by omega), World.there_setCells (fun j hj => hth j (by omega)) _ _ [_], Or.inl ⟨rfl, rfl⟩, by omega, by simp only [World.setCell, Array.size_modify]; omega⟩
      have hPS : PcsIn (fun b => b ≠ w.heap.size ∧ b ≠ w.heap.size ∧ b < wS.heap.size) wS (.slice (some ⟨g, 0, none⟩) m cg) m (nth (ne x n)) := by
        rw [hsS, hwS]
        have hp := HMid.out.pcs
        rw [HM.out] at hp
        replace hp := hp.mono (fun b h => (⟨h.1, by have := h.2; simpa [World.setCell] using this⟩ : b ≠ w.heap.size ∧ b < w5.heap.size))
        exact (hp.set w.heap.size 1 _ (fun b h => h.1)).mono (fun b h => by omega)
      have hBS : Below w.heap.size w wS := by
        rw [hwS]
        exact HMid.out.bel.setCell (p := ⟨w.heap.size, 1, none⟩) (Nat.le_refl _) _
      have HSame : Hid ((∀ i, i < n → (x i).n ≠ 0) → (.slice (some ⟨g, 0, none⟩) m cg : Value) = .slice (some ⟨b0, off0, none⟩) n cap) := HMid.out.same
      clear hwS hsS HMid hv0 hv1 hvf0 hvf1 hc0 hc1 hf1 hth
      obtain ⟨i0, hi, hz0, hz1, hz2⟩ := info_parts Try.info3
      clear hz0 hz2
      go_loopw [4, 46] (fun t i wr => ∃ j : Nat, j ≤ m ∧ i = .int .i64 j ∧ t = .int .i64 (sumLen ((ne x n).take j) : Nat) ∧ NT w.heap.size w.heap.size 2 2 m j (.slice (some ⟨g, 0, none⟩) m cg) (fun j => sumLen ((ne x n).take j)) wr ∧ PcsIn (fun b => b ≠ w.heap.size ∧ b ≠ w.heap.size ∧ b < wS.heap.size) wr (.slice (some ⟨g, 0, none⟩) m cg) m (nth (ne x n)) ∧ Below w.heap.size w wr ∧ wS.heap.size ≤ wr.heap.size) (fun _ i _ => m - (intOf i).toNat)
      case atStart => exact ⟨0, by omega, rfl, by simp [sumLen], hNS, hPS, hBS, Nat.le_refl _⟩
      case round =>
        obtain ⟨j, hj, rfl, rfl, hN, hP, mB, hz⟩ := hrel
        obtain ⟨wo, rfl⟩ : ∃ x, x = wr := ⟨_, rfl⟩
        clear hNS hPS hBS
        have hlt2 := hN.lt
        have hb1 : Below wo.heap.size wo (wo.alloc (.cells #[.int .i64 (sumLen ((ne x n).take j) : Nat)] 3)) := (Below.refl _ _).alloc (Nat.le_refl _) _
        have hT1 := (hb1.cell (p := ⟨w.heap.size, 1, none⟩) hlt2.1).trans hN.c1
        have hT1' := hN.c1
        have HP : Hid (PcsIn (fun b => b ≠ w.heap.size ∧ b ≠ w.heap.size ∧ b < wS.heap.size) wo (.slice (some ⟨g, 0, none⟩) m cg) m (nth (ne x n))) := hP
        clear hP
        by_cases hlt : j < m
        · obtain ⟨ap', cp', e', _, hpc⟩ := HP.out
          obtain ⟨rfl, rfl⟩ : (some ⟨g, 0, none⟩) = ap' ∧ cg = cp' := by simpa using e'
          obtain ⟨b, off, e, hbB, hrow⟩ := hpc (by omega)
          obtain ⟨rfl, rfl⟩ : b = g ∧ off = 0 := by simp at e; exact ⟨e.1.symm, e.2.symm⟩
          have hcj := hrow j hlt
          simp only [Nat.zero_add] at hcj
          unfold Pc.v at hcj
          have HT : Hid (sumLen ((ne x n).take (j + 1)) = sumLen ((ne x n).take j) + (nth (ne x n) j).n) := sumLen_take (by rw [HM.out]; exact hlt)
          have hle : ((sumLen ((ne x n).take j) + (nth (ne x n) j).n : Nat) : Int) ≤ 1048576 := by
            have h1 : sumLen (ne x n) = sumLen ((ne x n).take (j + 1)) + sumLen ((ne x n).drop (j + 1)) := by rw [← sumLen_append, List.take_append_drop]
            have h2 := HS.out
            have h3 := HT.out
            omega
          clear hpc hrow e'
          go_wp2_with (first
            | (at_builtin; refine wpList_append_NT rfl 57 rfl (.tmp 54) (.tmp 56) rfl hN (by omega) _ rfl rfl rfl 1 rfl ?_; intro wq hq0 hq1 hqf HQ)
            | fail)
          go_roundw
          case rel =>
            have hq := HQ.out
            subst hq
            have hN3 := (hN.kept hb1 hlt2.1 hlt2.2).more (show j < m + 1 by omega)
            refine ⟨j + 1, by omega, by go_num, by rw [HT.out]; simp, hN3, ?_, ?_, ?_⟩
            · exact (((HP.out.below hb1 (fun b h => by omega)).set _ _ _ (fun b h => h.2.1)).set _ _ _ (fun b h => h.1))
            · exact (((mB.trans (hb1.mono mB.size)).setCell (p := ⟨w.heap.size, 2 + j, none⟩) (Nat.le_refl _) _)).setCell (p := ⟨w.heap.size, 1, none⟩) (Nat.le_refl _) _
            · simp [World.setCell]; omega
          case measure => simp [intOf]; omega
        · obtain rfl : m = j := by omega
          go_wp2_with (first
            | (at_builtin; refine wpList_append_NT rfl 72 rfl (.tmp 69) (.tmp 71) rfl hN (by omega) _ rfl rfl rfl 1 rfl ?_; intro wq hq0 hq1 hqf HQ)
            | fail)
          go_ret
          have hq := HQ.out
          subst hq
          have hN3 := (hN.kept hb1 hlt2.1 hlt2.2).more (show m < m + 1 by omega)
          have hP3 := (((HP.out.below hb1 (fun b h => by omega)).set w.heap.size (2 + m) (.int .i64 (sumLen ((ne x n).take m) : Nat)) (fun b h => h.2.1)).set w.heap.size 1 (.slice (some ⟨w.heap.size, 2, none⟩) (m + 1) 2) (fun b h => h.1))
          refine ⟨w.heap.size, w.heap.size, 2, 2, .slice (some ⟨g, 0, none⟩) m cg, rfl, ?_, ?_, HSame.out, ?_⟩
          · rw [HM.out]; exact hN3
          · rw [HM.out]; exact hP3.mono (fun b h => Nat.lt_of_lt_of_le h.2.2 (by simp [World.setCell]; omega))
          · exact (((mB.trans (hb1.mono mB.size)).setCell (p := ⟨w.heap.size, 2 + m, none⟩) (Nat.le_refl _) _)).setCell (p := ⟨w.heap.size, 1, none⟩) (Nat.le_refl _) _
end Go.Proofs.Qxb6602723a
