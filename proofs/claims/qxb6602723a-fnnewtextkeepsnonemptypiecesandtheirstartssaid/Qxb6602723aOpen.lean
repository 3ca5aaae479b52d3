/-
  A slice of slices of bytes among the arguments, opened.
-/
import Derived.Test.Qxb6602723aSlClone
import Derived.ProofKit
import Derived.OpenShut
import Derived.ShutString
import Derived.ChangeOld
import Derived.Below
namespace Go.Proofs.Qxb6602723a
open Go.ChangeShapes Go.WideShapes Go.ChangeAt Go.RowKit

theorem Try.own : ownKnob Try.prog.godebug = none := by kernel_rfl
theorem Try.laidOut : laidOutB Try.prog = true := by kernel_rfl
theorem Try.cells5 : Try.prog.cellsOf 5 = 1 := by kernel_rfl
theorem Try.cells27 : Try.prog.cellsOf 27 = 1 := by kernel_rfl
theorem cell_lt {w : World} {a : Addr} {v : Value} (h : w.cell? a = some v) : a.block < w.heap.size := by
  unfold World.cell? at h
  cases hb : w.heap[a.block]? with
  | none => simp [hb] at h
  | some o => exact (Array.getElem?_eq_some_iff.1 hb).1
/-- The elements of a slice, as they are read. -/
theorem row_at {W : World} {a : Addr} {s len : Nat} {X : Type} {f : List Value → Option X} {elems : List X} (h : ∀ i, i < len → (W.cells? 0 (a.add (i * s)) s).bind f = elems[i]?) (hl : elems.length = len) (hs : 0 < s) (h0 : 0 < len) :
    ∃ b off, a = ⟨b, off, none⟩ ∧ b < W.heap.size ∧ ∀ i, i < len → ∃ cs x, W.rangeAt b (off + i * s) cs ∧ cs.length = s ∧ f cs = some x := by
  have key : ∀ i, i < len → ∃ cs x, W.cells? 0 (a.add (i * s)) s = some cs ∧ f cs = some x := by
    intro i hi
    have h1 := h i hi
    rw [List.getElem?_eq_getElem (by omega)] at h1
    cases hc : W.cells? 0 (a.add (i * s)) s with
    | none => simp [hc] at h1
    | some cs => exact ⟨cs, _, rfl, by simpa [hc] using h1⟩
  obtain ⟨cs0, x0, hc0, _⟩ := key 0 h0
  obtain ⟨_, hl0, hg0⟩ := World.cells?_some hc0
  have hz := hg0 0 hs
  rw [List.getElem?_eq_getElem (by omega)] at hz
  have ea : (a.add (0 * s)).add 0 = a := by simp [Addr.add]
  rw [ea] at hz
  have hsp := World.cell?_spot hz
  have hlt := cell_lt hz
  obtain ⟨b, off, spot⟩ := a
  obtain rfl : spot = none := hsp
  refine ⟨b, off, rfl, hlt, fun i hi => ?_⟩
  obtain ⟨cs, x, hc, hf⟩ := key i hi
  obtain ⟨_, hl', hg⟩ := World.cells?_some hc
  refine ⟨cs, x, fun j v hv => ?_, hl', hf⟩
  have := hg j (by rw [← hl']; exact (List.getElem?_eq_some_iff.1 hv).1)
  rw [add_plain, add_plain] at this
  rw [this]
  exact hv

section
variable {H : Type} {enc : TypeId × Value → H} {W : World} {spare : Nat → Bool} {held : Bool} {fuel : Nat}
theorem pc_of_trod {l : List Value} {x : DataW H × List MemPlace} (hf : DataW.trod enc Try.prog W 0 spare held fuel 27 l = some x) :
    ∃ (p : Pc) (z : Nat → Int), l = [p.v] ∧ PcIn (· < W.heap.size) W p z ∧ p.n ≤ 9223372036854775807 := by
  rcases DataW.trod_slice Try.underlying27 hf with ⟨rfl, _⟩ | ⟨a, len, cap, elems, rest, m, _, rfl, _, _, h1, h2, h3, h4, _⟩
  · exact ⟨⟨none, 0, 0⟩, fun _ => 0, rfl, ⟨fun _ => ⟨rfl, rfl⟩, fun h => absurd h (by simp)⟩, by simp⟩
  · rw [Try.cells5] at h4
    by_cases h0 : 0 < len
    · obtain ⟨b, off, rfl, hlt, hr⟩ := row_at h4 h3 (by omega) h0
      have key : ∀ i, ∃ z : Int, i < len → W.cell? ⟨b, off + i, none⟩ = some (.int .u8 z) := by
        intro i
        by_cases hi : i < len
        · obtain ⟨cs, y, q1, q2, q3⟩ := hr i hi
          obtain ⟨n, hn, _, _⟩ := DataW.trod_int Try.underlying5 q3
          refine ⟨n, fun _ => ?_⟩
          have := q1 0 (.int .u8 n) (by rw [hn]; rfl)
          rwa [Nat.mul_one, Nat.add_zero] at this
        · exact ⟨0, fun h => absurd h hi⟩
      exact ⟨⟨some ⟨b, off, none⟩, len, cap⟩, fun i => Classical.choose (key i), rfl, ⟨(fun h => by cases h), fun _ => ⟨b, off, rfl, hlt, fun j hj => Classical.choose_spec (key j) hj⟩⟩, by unfold maxLen at h2; show len ≤ _; omega⟩
    · exact ⟨⟨some a, len, cap⟩, fun _ => 0, rfl, ⟨(fun h => by cases h), fun h => absurd h h0⟩, by show len ≤ _; omega⟩
theorem pcs_of_trod {l : List Value} {x : DataW H × List MemPlace} (hf : DataW.trod enc Try.prog W 0 spare held fuel 30 l = some x) :
    ∃ (v : Value) (n : Nat) (x : Nat → Pc) (z : Nat → Nat → Int), l = [v] ∧ PcsIn (· < W.heap.size) W v n x ∧ (∀ i, i < n → PcIn (· < W.heap.size) W (x i) (z i)) ∧ n ≤ 9223372036854775807 ∧ ∀ i, i < n → (x i).n ≤ 9223372036854775807 := by
  rcases DataW.trod_slice Try.underlying30 hf with ⟨rfl, _⟩ | ⟨a, len, cap, elems, rest, m, _, rfl, _, _, h1, h2, h3, h4, _⟩
  · exact ⟨_, 0, fun _ => ⟨none, 0, 0⟩, fun _ _ => 0, rfl, ⟨none, 0, rfl, fun _ => ⟨rfl, rfl⟩, fun h => absurd h (by omega)⟩, fun i hi => absurd hi (by omega), by omega, fun j hj => absurd hj (by omega)⟩
  · rw [Try.cells27] at h4
    by_cases h0 : 0 < len
    · obtain ⟨b, off, rfl, hlt, hr⟩ := row_at h4 h3 (by omega) h0
      have key : ∀ i, ∃ q : Pc × (Nat → Int), i < len → W.cell? ⟨b, off + i, none⟩ = some q.1.v ∧ PcIn (· < W.heap.size) W q.1 q.2 ∧ q.1.n ≤ 9223372036854775807 := by
        intro i
        by_cases hi : i < len
        · obtain ⟨cs, y, q1, q2, q3⟩ := hr i hi
          obtain ⟨p, z, hz, hp, hb⟩ := pc_of_trod q3
          refine ⟨(p, z), fun _ => ⟨?_, hp, hb⟩⟩
          have := q1 0 p.v (by rw [hz]; rfl)
          rwa [Nat.mul_one, Nat.add_zero] at this
        · exact ⟨(⟨none, 0, 0⟩, fun _ => 0), fun h => absurd h hi⟩
      exact ⟨_, len, fun i => (Classical.choose (key i)).1, fun i => (Classical.choose (key i)).2, rfl, ⟨_, cap, rfl, (fun h => by cases h), fun _ => ⟨b, off, rfl, hlt, fun j hj => (Classical.choose_spec (key j) hj).1⟩⟩, fun i hi => (Classical.choose_spec (key i) hi).2.1, by unfold maxLen at h2; omega, fun j hj => (Classical.choose_spec (key j) hj).2.2⟩
    · exact ⟨_, len, fun _ => ⟨none, 0, 0⟩, fun _ _ => 0, rfl, ⟨_, cap, rfl, (fun h => by cases h), fun h => absurd h h0⟩, fun i hi => absurd hi (by omega), by omega, fun j hj => absurd hj (by omega)⟩
end
theorem open_pcs {H : Type} {enc : TypeId × Value → H} {W : World} {r : Reach} {bs : Nat} {spare : Nat → Bool} {held : Bool} {v : Value} {d : DataW H} {p : List MemPlace}
    (hv : Value.okWide Try.prog W r bs 30 v) (h : DataW.Trod enc Try.prog W 0 spare held 30 v d p) :
    ∃ (n : Nat) (x : Nat → Pc) (z : Nat → Nat → Int), PcsIn (· < W.heap.size) W v n x ∧ (∀ i, i < n → PcIn (· < W.heap.size) W (x i) (z i)) ∧ n ≤ 9223372036854775807 ∧ ∀ i, i < n → (x i).n ≤ 9223372036854775807 := by
  obtain ⟨a, l, cp, rfl⟩ := okWide_slice Try.underlying30 hv
  obtain ⟨fuel, hf⟩ := h
  obtain ⟨v', n, x, z, e, h1, h2, h3, h4⟩ := pcs_of_trod hf
  have e' : [Value.slice a l cp] = [v'] := e
  obtain rfl : Value.slice a l cp = v' := by simpa using e'
  exact ⟨n, x, z, h1, h2, h3, h4⟩
end Go.Proofs.Qxb6602723a
