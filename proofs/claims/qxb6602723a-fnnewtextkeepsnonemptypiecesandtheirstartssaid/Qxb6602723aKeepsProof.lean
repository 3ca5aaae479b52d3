/-
  THE ROW OF FnNewTextKeepsNonEmptyPiecesAndTheirStarts, PROVED (after the guide's own shell for a law).
-/
import Derived.Test.Qxb6602723aKeeps
import Derived.Test.Qxb6602723aOpen
import Derived.Test.Qxb6602723aHead
namespace Go.Proofs.Qxb6602723a
open Go.ChangeShapes Go.WideShapes Go.ChangeAt Go.RowKit

set_option maxRecDepth 100000 in
theorem fnNewTextKeepsNonEmptyPiecesAndTheirStarts_lifted (os : Os) (started : os.Started) (H : Type) (enc : TypeId × Value → H) :
    ReturnsInHanded {} Try.checked os 5 .any (Rows.fnNewTextKeepsNonEmptyPiecesAndTheirStartsSpec.pre6 enc Try.prog Try.f5 Rows.fnNewTextKeepsNonEmptyPiecesAndTheirStartsRow.domain false) (Rows.fnNewTextKeepsNonEmptyPiecesAndTheirStartsSpec.post enc Try.prog Try.f5 false true false false) := by
  refine returnsInHanded_of_change (C := Try.checked) Try.own started (by kernel_rfl) Try.func5
    (ChangeSpec.witness6 (enc := enc) (C := Try.checked) false ⟨#[], #[.slice none 0 0], []⟩ 8 (by kernel_rfl) (by kernel_rfl) (by kernel_rfl) (by kernel_rfl)) ?_
  intro W base args ds gs before hval0 hW hcnd _
  have hval : ∀ (j : Nat) t v, Try.f5.params[j]? = some t → args[j]? = some v → Value.okWide Try.prog W .any base t v := hval0
  have hW' := hW
  obtain ⟨p, q, hA0, hV, rfl, hfz, hnd⟩ := hW
  have hA : DataW.TrodAll enc Try.prog W 0 (fun _ => true) true Try.f5.params.toList args.toList ds p := hA0
  rw [Try.params5] at hA hval
  obtain ⟨v0, vs0, d0, ds0, p0, q0, hargs, rfl, rfl, h0, r0⟩ := trodAll_cons hA
  obtain ⟨rfl, rfl, rfl⟩ := trodAll_nil r0
  obtain rfl : args = #[v0] := by cases args; simp_all
  obtain ⟨rfl, rfl⟩ := trodVars_none hV
  have k0 := h0
  have lt0 : ∀ x ∈ p0, x.block < W.heap.size := by obtain ⟨m, hm⟩ := k0; exact DataW.trod_lt m _ _ _ hm
  obtain ⟨n, x, z, hc, hz, hn, ho⟩ := open_pcs (hval 0 30 v0 rfl rfl) h0
  clear hA0 hval0
  refine (keeps_any v0 n x z W hc hz hn ho).mono fun e W' ⟨he, bel⟩ => ?_
  subst he
  exact ⟨_, rfl, _, _, _, [], _, [], hW', trodAll_mk1 (shut_bool Try.underlying4 _), (trodAll_cons_mk (Below.trod Try.laidOut (by kernel_rfl) (of_decide_eq_true (by kernel_rfl)) k0 bel lt0) trodAll_mk0), rfl, bel.frame _, fun h => by cases h⟩

theorem fnNewTextKeepsNonEmptyPiecesAndTheirStarts_closed : joinedFacts Try.prog 5 Try.f5 Rows.fnNewTextKeepsNonEmptyPiecesAndTheirStartsSpec Rows.fnNewTextKeepsNonEmptyPiecesAndTheirStartsRow = true := by
  unfold joinedFacts
  rw [Try.fMayEnter, Try.fLiftsFinal, Try.fMake]
  kernel_rfl

/-- THE STATEMENT. -/
theorem fnNewTextKeepsNonEmptyPiecesAndTheirStarts_proved : Rows.FnNewTextKeepsNonEmptyPiecesAndTheirStartsSaid :=
  OpenClaim.holds_of_wide 5 Try.f5 rfl rfl rfl rfl rfl rfl rfl ⟨rfl, rfl, rfl, rfl, rfl⟩ rfl rfl rfl rfl rfl (by kernel_rfl) Try.func5 fnNewTextKeepsNonEmptyPiecesAndTheirStarts_closed
    (of_decide_eq_true (by kernel_rfl)) (by unfold Func.isWrapper; first | (rw [if_pos (by decide +kernel)]; kernel_rfl) | (rw [if_neg (by decide +kernel)]; exact ⟨rfl, rfl⟩))
    (fun os started H enc _ => fnNewTextKeepsNonEmptyPiecesAndTheirStarts_lifted os started H enc)
end Go.Proofs.Qxb6602723a
