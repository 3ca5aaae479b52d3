/-
  THE ROW OF FnCommitListAddKeepsNoHoldOfTheParents, PROVED (after the guide's own shell for a law).
-/
import Derived.Test.Qxb6604526aKeeps
import Derived.Test.Qxb6604526aOpen2
import Derived.Test.Qxb6604526aHead
namespace Go.Proofs.Qxb6604526a
open Go.ChangeShapes Go.WideShapes Go.ChangeAt Go.RowKit

set_option maxRecDepth 100000 in
theorem fnCommitListAddKeepsNoHoldOfTheParents_lifted (os : Os) (started : os.Started) (H : Type) (enc : TypeId × Value → H) :
    ReturnsInHanded {} Try.checked os 7 .any (Rows.fnCommitListAddKeepsNoHoldOfTheParentsSpec.pre6 enc Try.prog Try.f7 Rows.fnCommitListAddKeepsNoHoldOfTheParentsRow.domain false) (Rows.fnCommitListAddKeepsNoHoldOfTheParentsSpec.post enc Try.prog Try.f7 false true false false) := by
  refine returnsInHanded_of_change (C := Try.checked) Try.own started (by kernel_rfl) Try.func7
    (ChangeSpec.witness6 (enc := enc) (C := Try.checked) false ⟨#[], #[.slice none 0 0, .agg (row 33 fun _ => 0)], []⟩ 8 (by kernel_rfl) (by kernel_rfl) (by kernel_rfl) (by kernel_rfl)) ?_
  intro W base args ds gs before hval0 hW hcnd _
  have hval : ∀ (j : Nat) t v, Try.f7.params[j]? = some t → args[j]? = some v → Value.okWide Try.prog W .any base t v := hval0
  have hW' := hW
  obtain ⟨p, q, hA0, hV, rfl, hfz, hnd⟩ := hW
  have hA : DataW.TrodAll enc Try.prog W 0 (fun _ => true) true Try.f7.params.toList args.toList ds p := hA0
  rw [Try.params7] at hA hval
  obtain ⟨v0, vs0, d0, ds0, p0, q0, hargs, rfl, rfl, h0, r0⟩ := trodAll_cons hA
  obtain ⟨v1, vs1, d1, ds1, p1, q1, rfl, rfl, rfl, h1, r1⟩ := trodAll_cons r0
  obtain ⟨rfl, rfl, rfl⟩ := trodAll_nil r1
  obtain rfl : args = #[v0, v1] := by cases args; simp_all
  obtain ⟨rfl, rfl⟩ := trodVars_none hV
  have k0 := h0
  have lt0 : ∀ x ∈ p0, x.block < W.heap.size := by obtain ⟨m, hm⟩ := k0; exact DataW.trod_lt m _ _ _ hm
  have k1 := h1
  have lt1 : ∀ x ∈ p1, x.block < W.heap.size := by obtain ⟨m, hm⟩ := k1; exact DataW.trod_lt m _ _ _ hm
  obtain ⟨n, c, hc, hn, ho⟩ := open_coms (hval 0 40 v0 rfl rfl) h0
  obtain ⟨jk, rfl, hj⟩ := open_id (hval 1 53 v1 rfl rfl) h1
  clear hA0 hval0
  refine (keeps_any v0 n c jk W hc hn ho hj).mono fun e W' ⟨he, bel⟩ => ?_
  subst he
  exact ⟨_, rfl, _, _, _, [], _, [], hW', trodAll_mk1 (shut_bool Try.underlying4 _), (trodAll_cons_mk (Below.trod Try.laidOut (by kernel_rfl) (of_decide_eq_true (by kernel_rfl)) k0 bel lt0) (trodAll_cons_mk (Below.trod Try.laidOut (by kernel_rfl) (of_decide_eq_true (by kernel_rfl)) k1 bel lt1) trodAll_mk0)), rfl, bel.frame _, fun h => by cases h⟩

theorem fnCommitListAddKeepsNoHoldOfTheParents_closed : joinedFacts Try.prog 7 Try.f7 Rows.fnCommitListAddKeepsNoHoldOfTheParentsSpec Rows.fnCommitListAddKeepsNoHoldOfTheParentsRow = true := by
  unfold joinedFacts
  rw [Try.fMayEnter, Try.fLiftsFinal, Try.fMake]
  kernel_rfl

/-- THE STATEMENT. -/
theorem fnCommitListAddKeepsNoHoldOfTheParents_proved : Rows.FnCommitListAddKeepsNoHoldOfTheParentsSaid :=
  OpenClaim.holds_of_wide 7 Try.f7 rfl rfl rfl rfl rfl rfl rfl ⟨rfl, rfl, rfl, rfl, rfl⟩ rfl rfl rfl rfl rfl (by kernel_rfl) Try.func7 fnCommitListAddKeepsNoHoldOfTheParents_closed
    (of_decide_eq_true (by kernel_rfl)) (by unfold Func.isWrapper; first | (rw [if_pos (by decide +kernel)]; kernel_rfl) | (rw [if_neg (by decide +kernel)]; exact ⟨rfl, rfl⟩))
    (fun os started H enc _ => fnCommitListAddKeepsNoHoldOfTheParents_lifted os started H enc)
end Go.Proofs.Qxb6604526a
