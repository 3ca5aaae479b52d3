/-
  Regions that draw their order, step by step: small laws on the kit's 'wpAnyH'.
-/
import Derived.Test.Qxb6602723aSame
import Derived.Deep.RegionHeld
namespace Go.Proofs.Qxb6602723a
open Go.RowKit

section
variable {P : Program} {ops : Array Oper} {Q : Exit → Act → World → Prop} {md : Region.Mode} {S : World → Prop}

/-- Take first what yields. -/
theorem takeV {oi : Oper} {fuel : Nat} {listed : Array Bool} {a : Act} {w : World} (i d : Nat) (v : Value) (hi : ops[i]? = some oi) (hd : oi.dst = some d)
    (hs : Region.noSelect ops = true) (hf : Region.free md ops listed i = true) (hr : (Region.ready md ops listed).contains i = true)
    (hQ : ∀ c a w, Q (.panic c) (a.put (some d) v) w → Q (.panic c) a w) (hw : Region.wanted oi (yielded ops a.tmps) = true) (hy : ∀ w, S w → (execOp a.eval oi).run P w = .ok (.value v) w) (hS : S w)
    (h : wpAnyH P md ops Q S fuel (listed.setIfInBounds i true) ⟨a.tmps.setIfInBounds d v, a.defers⟩ w) : wpAnyH P md ops Q S (fuel + 1) listed a w :=
  wpAnyH_take hi hs hf hr (by rw [hd]; exact hQ) (.inl ⟨hw, hy⟩) hS (by rw [hd]; exact h)
/-- A whole array or struct is loaded. -/
theorem takeL {oi : Oper} {fuel : Nat} {listed : Array Bool} {a : Act} {w : World} (i dst : Nat) (hi : ops[i]? = some oi) (hdst : oi.dst = some dst) (ty : TypeId) (x : Operand) (ho : oi.op = .load ty x) (b o : Nat) (hx : a.eval x = .pointer (some ⟨b, o, none⟩)) (cs : List Value) (d : TypeDesc)
    (hs : Region.noSelect ops = true) (hf : Region.free md ops listed i = true) (hr : (Region.ready md ops listed).contains i = true)
    (hQ : ∀ c a w, Q (.panic c) (a.put (some dst) (.agg cs.toArray)) w → Q (.panic c) a w) (hw : Region.wanted oi (yielded ops a.tmps) = true)
    (hc : ∀ w, S w → w.rangeAt b o cs) (hu : P.underlying ty = some d) (hd : d.isRow = true) (hn : (P.info? ty).map (·.size) = some cs.length) (hS : S w)
    (h : wpAnyH P md ops Q S fuel (listed.setIfInBounds i true) ⟨a.tmps.setIfInBounds dst (.agg cs.toArray), a.defers⟩ w) : wpAnyH P md ops Q S (fuel + 1) listed a w :=
  wpAnyH_take hi hs hf hr (by rw [hdst]; exact hQ) (yieldsIf_load_mid hw ty x ho b o hx cs d hc hu hd hn) hS (by rw [hdst]; exact h)
/-- A struct is built out of slots. -/
theorem takeB {oi : Oper} {fuel : Nat} {listed : Array Bool} {a : Act} {w : World} (i d : Nat) (cs : Array Value) (hi : ops[i]? = some oi) (hd : oi.dst = some d) (t : TypeId) (parts : Array (Nat × Operand)) (ho : oi.op = .build t parts)
    (hs : Region.noSelect ops = true) (hf : Region.free md ops listed i = true) (hr : (Region.ready md ops listed).contains i = true)
    (hQ : ∀ c a w, Q (.panic c) (a.put (some d) (.agg cs)) w → Q (.panic c) a w) (hw : Region.wanted oi (yielded ops a.tmps) = true) (hb : P.built t (parts.map fun (i, x) => (i, a.eval x)).toList = some cs) (hS : S w)
    (h : wpAnyH P md ops Q S fuel (listed.setIfInBounds i true) ⟨a.tmps.setIfInBounds d (.agg cs), a.defers⟩ w) : wpAnyH P md ops Q S (fuel + 1) listed a w :=
  takeV i d _ hi hd hs hf hr hQ hw (fun w _ => by unfold execOp; simp only [ho, Sem.run_bind, run_build w t _ cs hb, Result.andThen_ok]; rfl) hS h
/-- One operation alone may come up: it is carried out; behind it S is shown anew. -/
theorem goOne {o : Oper} {fuel : Nat} {listed : Array Bool} {a : Act} {w : World} (i : Nat) (hr : Region.ready md ops listed = [i]) (ho : ops[i]? = some o) (hw : Region.wanted o (yielded ops a.tmps) = true)
    (h : ∀ K' : Act → World → Prop, Shut (∀ a w, S w → (S w → wpAnyH P md ops Q S fuel (listed.setIfInBounds i true) a w) → K' a w) → Oper.wp P o a w K' Q) : wpAnyH P md ops Q S (fuel + 1) listed a w :=
  wpAnyH_ready hr (by simp) (AllReadyH.cons ho (fun K' hK => by rw [if_pos hw]; exact h K' hK) AllReadyH.nil)
/-- An operation that runs to a value. -/
theorem wpOp_value {i : Nat} {o : Oper} {a : Act} {w w1 : World} {v : Value} {K : Act → World → Prop} (ho : ops[i]? = some o) (hw : Region.wanted o (yielded ops a.tmps) = true)
    (h : (execOp a.eval o).run P w = .ok (.value v) w1) (hK : K (a.put o.dst v) w1) : wpOp P ops Q i K a w :=
  wpOp_step ho fun K' hK' => by
    rw [if_pos hw]
    unfold Oper.wp
    rw [h]
    exact hK' _ _ hK
/-- Two operations may come up, in either order: one yields v in both worlds, the other turns the world and yields u. -/
theorem goTwo {o1 o2 : Oper} {fuel : Nat} {listed : Array Bool} {a : Act} {w w1 : World} (i j d1 d2 : Nat) (v u : Value) (hr : Region.ready md ops listed = [i, j]) (ho1 : ops[i]? = some o1) (ho2 : ops[j]? = some o2) (hd1 : o1.dst = some d1) (hd2 : o2.dst = some d2) (hne : d1 ≠ d2)
    (hri : Region.ready md ops (listed.setIfInBounds i true) = [j]) (hrj : Region.ready md ops (listed.setIfInBounds j true) = [i]) (hij : i ≠ j)
    (hw1 : Region.wanted o1 (yielded ops a.tmps) = true) (hw1' : Region.wanted o1 (yielded ops (a.tmps.setIfInBounds d2 u)) = true) (hw2 : Region.wanted o2 (yielded ops a.tmps) = true) (hw2' : Region.wanted o2 (yielded ops (a.tmps.setIfInBounds d1 v)) = true)
    (h1 : (execOp a.eval o1).run P w = .ok (.value v) w) (h1' : (execOp (Act.eval ⟨a.tmps.setIfInBounds d2 u, a.defers⟩) o1).run P w1 = .ok (.value v) w1)
    (h2 : (execOp a.eval o2).run P w = .ok (.value u) w1) (h2' : (execOp (Act.eval ⟨a.tmps.setIfInBounds d1 v, a.defers⟩) o2).run P w = .ok (.value u) w1)
    (hS : S w) (hS1 : S w1)
    (h : wpAnyH P md ops Q S fuel ((listed.setIfInBounds i true).setIfInBounds j true) ⟨(a.tmps.setIfInBounds d1 v).setIfInBounds d2 u, a.defers⟩ w1) : wpAnyH P md ops Q S (fuel + 2) listed a w := by
  refine wpAnyH_ready hr (by simp) ?_
  intro k hk
  have hk' : k = i ∨ k = j := by simpa using hk
  rcases hk' with rfl | rfl
  · refine wpOp_value ho1 hw1 h1 ⟨hS, ?_⟩
    rw [hd1]
    refine wpAnyH_ready hri (by simp) ?_
    intro k' hk'
    obtain rfl : k' = j := by simpa using hk'
    refine wpOp_value ho2 hw2' h2' ⟨hS1, ?_⟩
    rw [hd2]
    exact h
  · refine wpOp_value ho2 hw2 h2 ⟨hS1, ?_⟩
    rw [hd2]
    refine wpAnyH_ready hrj (by simp) ?_
    intro k' hk'
    obtain rfl : k' = i := by simpa using hk'
    refine wpOp_value ho1 hw1' h1' ⟨hS1, ?_⟩
    rw [hd1]
    have e1 : (listed.setIfInBounds k true).setIfInBounds k' true = (listed.setIfInBounds k' true).setIfInBounds k true := Array.setIfInBounds_comm _ _ (fun e => hij e.symm)
    have e2 : (Act.put (Act.put a (some d2) u) (some d1) v) = ⟨(a.tmps.setIfInBounds d1 v).setIfInBounds d2 u, a.defers⟩ := by
      show (⟨(a.tmps.setIfInBounds d2 u).setIfInBounds d1 v, a.defers⟩ : Act) = _
      rw [Array.setIfInBounds_comm _ _ (fun e => hne e.symm)]
    rw [e1]
    exact e2 ▸ h
end
end Go.Proofs.Qxb6602723a
