/-
  An array of 32 bytes among the arguments, opened.
-/
import Derived.Test.Qxb6604526aCells
import Derived.ProofKit
import Derived.OpenShut
import Derived.ShutString
import Derived.ChangeOld
import Derived.Below
namespace Go.Proofs.Qxb6604526a
open Go.ChangeShapes Go.WideShapes Go.ChangeAt Go.RowKit

theorem Try.own : ownKnob Try.prog.godebug = none := by kernel_rfl
theorem Try.laidOut : laidOutB Try.prog = true := by kernel_rfl
theorem Try.cells5 : Try.prog.cellsOf 5 = 1 := by kernel_rfl
theorem Try.cells22 : Try.prog.cellsOf 22 = 32 := by kernel_rfl

theorem okWide_array {P : Program} {w : World} {r : Reach} {base : Nat} {t e : TypeId} {n : Nat} {v : Value} (ht : P.underlying t = some (.array n e)) (h : Value.okWide P w r base t v) : ∃ cs, v = .agg cs ∧ cs.size = P.cellsOf t := by
  unfold Value.okWide at h
  rw [ht] at h
  cases v <;> simp_all
theorem wf_u8 {n : Int} (h : (Lit.int .u8 n).wf = true) : 0 ≤ n ∧ n < 256 := by
  simp [Lit.wf, IntKind.min, IntKind.max, IntKind.signed, IntKind.bits] at h
  omega
set_option maxRecDepth 100000 in
/-- The cells of an array of 32 bytes, as they are read. -/
theorem bytes_of_trod {H : Type} {enc : TypeId × Value → H} {W : World} {base : Nat} {spare : Nat → Bool} {held : Bool} {fuel : Nat} {l : List Value} {x : DataW H × List MemPlace}
    (hf : DataW.trod enc Try.prog W base spare held fuel 22 l = some x) :
    ∃ z : Nat → Int, l = rowL 32 z ∧ ∀ i, i < 32 → 0 ≤ z i ∧ z i < 256 := by
  obtain ⟨xs, m, _, _, hll, hxl, hx⟩ := DataW.trod_array Try.underlying22 hf
  rw [Try.cells22] at hll
  have key : ∀ i, ∃ z : Int, i < 32 → l[i]? = some (.int .u8 z) ∧ 0 ≤ z ∧ z < 256 := by
    intro i
    by_cases hi : i < 32
    · have h1 := hx i hi
      rw [List.getElem?_eq_getElem (by omega)] at h1
      obtain ⟨n, hn, _, hwf⟩ := DataW.trod_int Try.underlying5 h1
      rw [Try.cells5, Nat.mul_one] at hn
      have h2 : ((l.drop i).take 1)[0]? = some (.int .u8 n) := by rw [hn]; rfl
      refine ⟨n, fun _ => ⟨?_, (wf_u8 hwf).1, (wf_u8 hwf).2⟩⟩
      simpa using h2
    · exact ⟨0, fun h => absurd h hi⟩
  refine ⟨fun i => Classical.choose (key i), ?_, fun i hi => (Classical.choose_spec (key i) hi).2⟩
  apply List.ext_getElem?
  intro i
  by_cases hi : i < 32
  · rw [(Classical.choose_spec (key i) hi).1]
    simp [rowL, hi]
  · rw [List.getElem?_eq_none (by omega), List.getElem?_eq_none (by rw [rowL_length]; omega)]
set_option maxRecDepth 100000 in
theorem open_bytes {H : Type} {enc : TypeId × Value → H} {W : World} {r : Reach} {bs base : Nat} {spare : Nat → Bool} {held : Bool} {v : Value} {d : DataW H} {p : List MemPlace}
    (hv : Value.okWide Try.prog W r bs 22 v) (h : DataW.Trod enc Try.prog W base spare held 22 v d p) :
    ∃ z : Nat → Int, v = .agg (row 32 z) ∧ ∀ i, i < 32 → 0 ≤ z i ∧ z i < 256 := by
  obtain ⟨cs, rfl, hsz⟩ := okWide_array Try.underlying22 hv
  obtain ⟨fuel, hf⟩ := h
  obtain ⟨z, hz, hb⟩ := bytes_of_trod hf
  refine ⟨z, ?_, hb⟩
  have e : cs.toList = rowL 32 z := hz
  congr 1
  unfold row
  rw [← e]
end Go.Proofs.Qxb6604526a
