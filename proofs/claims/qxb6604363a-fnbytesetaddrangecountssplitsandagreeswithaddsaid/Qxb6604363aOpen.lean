/-
  A set ([4]uint64) among the arguments, opened.
-/
import Derived.Test.Qxb6604363aCells
import Derived.ProofKit
import Derived.OpenShut
import Derived.ShutString
import Derived.ChangeOld
import Derived.Below
namespace Go.Proofs.Qxb6604363a
open Go.ChangeShapes Go.WideShapes Go.ChangeAt Go.RowKit

theorem Try.own : ownKnob Try.prog.godebug = none := by kernel_rfl
theorem Try.laidOut : laidOutB Try.prog = true := by kernel_rfl
theorem Try.cells22 : Try.prog.cellsOf 22 = 1 := by kernel_rfl
theorem Try.cells23 : Try.prog.cellsOf 23 = 4 := by kernel_rfl

theorem okWide_array {P : Program} {w : World} {r : Reach} {base : Nat} {t e : TypeId} {n : Nat} {v : Value} (ht : P.underlying t = some (.array n e)) (h : Value.okWide P w r base t v) : ∃ cs, v = .agg cs ∧ cs.size = P.cellsOf t := by
  unfold Value.okWide at h
  rw [ht] at h
  cases v <;> simp_all
theorem wf_u64 {n : Int} (h : (Lit.int .u64 n).wf = true) : 0 ≤ n ∧ n < 18446744073709551616 := by
  simp [Lit.wf, IntKind.min, IntKind.max, IntKind.signed, IntKind.bits] at h
  omega
theorem wf_u8 {n : Int} (h : (Lit.int .u8 n).wf = true) : 0 ≤ n ∧ n < 256 := by
  simp [Lit.wf, IntKind.min, IntKind.max, IntKind.signed, IntKind.bits] at h
  omega
set_option maxRecDepth 100000 in
theorem open_set {H : Type} {enc : TypeId × Value → H} {W : World} {r : Reach} {bs base : Nat} {spare : Nat → Bool} {held : Bool} {v : Value} {d : DataW H} {p : List MemPlace}
    (hv : Value.okWide Try.prog W r bs 23 v) (h : DataW.Trod enc Try.prog W base spare held 23 v d p) :
    ∃ g : Nat → Int, v = .agg (ucells g) ∧ ∀ i, 0 ≤ g i ∧ g i < 18446744073709551616 := by
  obtain ⟨cs, rfl, hsz⟩ := okWide_array Try.underlying23 hv
  obtain ⟨fuel, hf⟩ := h
  obtain ⟨xs, m, _, _, _, hxl, hx⟩ := DataW.trod_array Try.underlying23 hf
  have key : ∀ i, i < 4 → ∃ z : Int, cs[i]? = some (.int .u64 z) ∧ 0 ≤ z ∧ z < 18446744073709551616 := by
    intro i hi
    have h1 := hx i hi
    rw [List.getElem?_eq_getElem (by omega)] at h1
    obtain ⟨n, hn, _, hwf⟩ := DataW.trod_int Try.underlying22 h1
    rw [Try.cells22, Nat.mul_one] at hn
    have h2 : ((cs.toList.drop i).take 1)[0]? = some (.int .u64 n) := by
      have : (Value.agg cs).cells.toList = cs.toList := rfl
      rw [this] at hn
      rw [hn]; rfl
    refine ⟨n, ?_, (wf_u64 hwf).1, (wf_u64 hwf).2⟩
    simpa using h2
  obtain ⟨z0, h0, b0⟩ := key 0 (by omega)
  obtain ⟨z1, h1, b1⟩ := key 1 (by omega)
  obtain ⟨z2, h2, b2⟩ := key 2 (by omega)
  obtain ⟨z3, h3, b3⟩ := key 3 (by omega)
  refine ⟨fun i => if i = 0 then z0 else if i = 1 then z1 else if i = 2 then z2 else z3, ?_, ?_⟩
  · congr 1
    rw [Try.cells23] at hsz
    apply Array.ext_getElem?
    intro i
    by_cases hi : i < 4
    · rw [ucells_get _ _ hi]
      match i, hi with
      | 0, _ => simpa using h0
      | 1, _ => simpa using h1
      | 2, _ => simpa using h2
      | 3, _ => simpa using h3
    · rw [Array.getElem?_eq_none (by omega), Array.getElem?_eq_none (by rw [ucells_size]; omega)]
  · intro i
    by_cases e0 : i = 0
    · simp [e0]; omega
    · by_cases e1 : i = 1
      · simp [e1]; omega
      · by_cases e2 : i = 2
        · simp [e2]; omega
        · simp [e0, e1, e2]; omega
end Go.Proofs.Qxb6604363a
