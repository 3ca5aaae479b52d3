/-
  A ZID and a slice of ZCommit among the arguments, opened.
-/
import Derived.Test.Qxb6604526aLays
import Derived.Test.Qxb6604526aOpen
namespace Go.Proofs.Qxb6604526a
open Go.ChangeShapes Go.WideShapes Go.ChangeAt Go.RowKit

theorem Try.cells53 : Try.prog.cellsOf 53 = 33 := by kernel_rfl
theorem Try.cells54 : Try.prog.cellsOf 54 = 1 := by kernel_rfl
theorem Try.cells55 : Try.prog.cellsOf 55 = 1 := by kernel_rfl
theorem Try.cells57 : Try.prog.cellsOf 57 = 68 := by kernel_rfl

theorem cell_lt {w : World} {a : Addr} {v : Value} (h : w.cell? a = some v) : a.block < w.heap.size := by
  unfold World.cell? at h
  cases hb : w.heap[a.block]? with
  | none => simp [hb] at h
  | some o => exact (Array.getElem?_eq_some_iff.1 hb).1
/-- The elements of a slice, as they are read. -/
theorem row_at {W : World} {a : Addr} {s len : Nat} {X : Type} {f : List Value → Option X} {elems : List X} (h : ∀ i, i < len → (W.cells? 0 (a.add (i * s)) s).bind f = elems[i]?) (hl : elems.length = len) (hs : 0 < s) (h0 : 0 < len) :
    ∃ b off, a = ⟨b, off, none⟩ ∧ b < W.heap.size ∧ ∀ i, i < len → ∃ cs x, W.rangeAt b (off + i * s) cs ∧ cs.length = s ∧ f cs = some x := by
  have key : ∀ i, i < len → ∃ cs x, W.cells? 0 (a.add (i * s)) s = some cs ∧ f cs = some x := by
    intro i hi
    have h1 := h i hi
    rw [List.getElem?_eq_getElem (by omega)] at h1
    cases hc : W.cells? 0 (a.add (i * s)) s with
    | none => simp [hc] at h1
    | some cs => exact ⟨cs, _, rfl, by simpa [hc] using h1⟩
  obtain ⟨cs0, x0, hc0, _⟩ := key 0 h0
  obtain ⟨_, hl0, hg0⟩ := World.cells?_some hc0
  have hz := hg0 0 hs
  rw [List.getElem?_eq_getElem (by omega)] at hz
  have ea : (a.add (0 * s)).add 0 = a := by simp [Addr.add]
  rw [ea] at hz
  have hsp := World.cell?_spot hz
  have hlt := cell_lt hz
  obtain ⟨b, off, spot⟩ := a
  obtain rfl : spot = none := hsp
  refine ⟨b, off, rfl, hlt, fun i hi => ?_⟩
  obtain ⟨cs, x, hc, hf⟩ := key i hi
  obtain ⟨_, hl', hg⟩ := World.cells?_some hc
  refine ⟨cs, x, fun j v hv => ?_, hl', hf⟩
  have := hg j (by rw [← hl']; exact (List.getElem?_eq_some_iff.1 hv).1)
  rw [add_plain, add_plain] at this
  rw [this]
  exact hv

section
variable {H : Type} {enc : TypeId × Value → H} {W : World} {spare : Nat → Bool} {held : Bool} {fuel : Nat}
set_option maxRecDepth 100000 in
theorem id_of_trod {l : List Value} {x : DataW H × List MemPlace} (hf : DataW.trod enc Try.prog W 0 spare held fuel 53 l = some x) : ∃ z : Nat → Int, l = rowL 33 z ∧ IdOk z := by
  obtain ⟨xs, m, _, _, hll, hxl, hx⟩ := DataW.trod_struct Try.underlying53 hf
  rw [Try.cells53] at hll
  have h0 : DataW.trod enc Try.prog W 0 spare held m 22 ((l.drop 0).take (Try.prog.cellsOf 22)) = xs[0]? := hx 0 _ rfl
  have h1 : DataW.trod enc Try.prog W 0 spare held m 5 ((l.drop 32).take (Try.prog.cellsOf 5)) = xs[1]? := hx 1 _ rfl
  simp only [List.size_toArray, List.length_cons, List.length_nil] at hxl
  rw [List.getElem?_eq_getElem (by omega)] at h0 h1
  obtain ⟨z, hz, _⟩ := bytes_of_trod h0
  obtain ⟨n, hn, _, hwf⟩ := DataW.trod_int Try.underlying5 h1
  rw [Try.cells22] at hz
  rw [Try.cells5] at hn
  simp only [List.drop_zero] at hz
  refine ⟨fun i => if i < 32 then z i else n, ?_, ?_⟩
  · have e : l = l.take 32 ++ (l.drop 32).take 1 := by
      apply List.ext_getElem?
      intro i
      by_cases hi : i < 32
      · rw [List.getElem?_append_left (by simp; omega)]; simp [hi]
      · rw [List.getElem?_append_right (by simp; omega)]
        simp only [List.length_take, List.getElem?_take, List.getElem?_drop]
        rw [show min 32 l.length = 32 by omega, show 32 + (i - 32) = i by omega]
        by_cases h2 : i - 32 < 1
        · rw [if_pos h2]
        · rw [if_neg h2, List.getElem?_eq_none (by omega)]
    rw [e, hz, hn]
    apply List.ext_getElem?
    intro i
    by_cases hi : i < 32
    · rw [List.getElem?_append_left (by rw [rowL_length]; omega)]
      simp [rowL, hi, show i < 33 by omega]
    · rw [List.getElem?_append_right (by rw [rowL_length]; omega), rowL_length]
      by_cases h2 : i = 32
      · subst h2; simp [rowL]
      · rw [List.getElem?_eq_none (by simp; omega), List.getElem?_eq_none (by rw [rowL_length]; omega)]
  · have := wf_u8 hwf
    simp [IdOk]
    omega
theorem ids_of_trod {l : List Value} {x : DataW H × List MemPlace} (hf : DataW.trod enc Try.prog W 0 spare held fuel 54 l = some x) :
    ∃ pv np p, l = [pv] ∧ IdsIn (· < W.heap.size) W pv np p ∧ np ≤ 9223372036854775807 ∧ ∀ j, j < np → IdOk (p j) := by
  rcases DataW.trod_slice Try.underlying54 hf with ⟨rfl, _⟩ | ⟨a, len, cap, elems, rest, m, _, rfl, _, _, h1, h2, h3, h4, _⟩
  · exact ⟨_, 0, fun _ _ => 0, rfl, ⟨none, 0, rfl, fun _ => ⟨rfl, rfl⟩, fun h => absurd h (by omega)⟩, by omega, fun j hj => absurd hj (by omega)⟩
  · rw [Try.cells53] at h4
    by_cases h0 : 0 < len
    · obtain ⟨b, off, rfl, hlt, hr⟩ := row_at h4 h3 (by omega) h0
      have key : ∀ i, ∃ z : Nat → Int, i < len → W.rangeAt b (off + i * 33) (rowL 33 z) ∧ IdOk z := by
        intro i
        by_cases hi : i < len
        · obtain ⟨cs, y, q1, q2, q3⟩ := hr i hi
          obtain ⟨z, hz, ho⟩ := id_of_trod q3
          exact ⟨z, fun _ => ⟨hz ▸ q1, ho⟩⟩
        · exact ⟨fun _ => 0, fun h => absurd h hi⟩
      exact ⟨_, len, fun i => Classical.choose (key i), rfl, ⟨_, cap, rfl, (fun h => by cases h), fun _ => ⟨b, off, rfl, hlt, fun j hj => (Classical.choose_spec (key j) hj).1⟩⟩, by unfold maxLen at h2; omega, fun j hj => (Classical.choose_spec (key j) hj).2⟩
    · exact ⟨_, len, fun _ _ => 0, rfl, ⟨_, cap, rfl, (fun h => by cases h), fun h => absurd h h0⟩, by omega, fun j hj => absurd hj (by omega)⟩
/-- What the walk wants of a commit. -/
def ComOk (c : Com) : Prop := c.np ≤ 9223372036854775807 ∧ IdOk c.id ∧ IdOk c.tree ∧ ∀ j, j < c.np → IdOk (c.p j)
theorem com_of_trod {l : List Value} {x : DataW H × List MemPlace} (hf : DataW.trod enc Try.prog W 0 spare held fuel 57 l = some x) :
    ∃ c pv, l = comL c pv ∧ IdsIn (· < W.heap.size) W pv c.np c.p ∧ ComOk c := by
  obtain ⟨xs, m, _, _, hll, hxl, hx⟩ := DataW.trod_struct Try.underlying57 hf
  rw [Try.cells57] at hll
  have h0 : DataW.trod enc Try.prog W 0 spare held m 53 ((l.drop 0).take (Try.prog.cellsOf 53)) = xs[0]? := hx 0 _ rfl
  have h1 : DataW.trod enc Try.prog W 0 spare held m 53 ((l.drop 33).take (Try.prog.cellsOf 53)) = xs[1]? := hx 1 _ rfl
  have h2 : DataW.trod enc Try.prog W 0 spare held m 54 ((l.drop 66).take (Try.prog.cellsOf 54)) = xs[2]? := hx 2 _ rfl
  have h3 : DataW.trod enc Try.prog W 0 spare held m 55 ((l.drop 67).take (Try.prog.cellsOf 55)) = xs[3]? := hx 3 _ rfl
  simp only [List.size_toArray, List.length_cons, List.length_nil] at hxl
  rw [List.getElem?_eq_getElem (by omega)] at h0 h1 h2 h3
  obtain ⟨z0, e0, o0⟩ := id_of_trod h0
  obtain ⟨z1, e1, o1⟩ := id_of_trod h1
  obtain ⟨pv, np, p, e2, i2, b2, o2⟩ := ids_of_trod h2
  obtain ⟨n, e3, _, hwf⟩ := DataW.trod_int Try.underlying55 h3
  rw [Try.cells53] at e0 e1
  rw [Try.cells54] at e2
  rw [Try.cells55] at e3
  refine ⟨⟨z0, z1, np, p, n⟩, pv, ?_, i2, b2, o0, o1, o2⟩
  have e : l = l.take 33 ++ ((l.drop 33).take 33 ++ ((l.drop 66).take 1 ++ (l.drop 67).take 1)) := by
    have a1 : l = l.take 33 ++ l.drop 33 := (List.take_append_drop 33 l).symm
    have a2 : l.drop 33 = (l.drop 33).take 33 ++ (l.drop 33).drop 33 := (List.take_append_drop 33 _).symm
    have a3 : l.drop 66 = (l.drop 66).take 1 ++ (l.drop 66).drop 1 := (List.take_append_drop 1 _).symm
    have a4 : (l.drop 67).take 1 = l.drop 67 := List.take_of_length_le (by simp; omega)
    rw [List.drop_drop] at a2 a3
    rw [a4, ← a3, ← a2]
    exact a1
  rw [e]
  simp only [List.drop_zero] at e0
  show _ = rowL 33 z0 ++ (rowL 33 z1 ++ [pv, .int .u64 n])
  rw [e0, e1, e2, e3]
  rfl
theorem coms_of_trod {l : List Value} {x : DataW H × List MemPlace} (hf : DataW.trod enc Try.prog W 0 spare held fuel 40 l = some x) :
    ∃ v n c, l = [v] ∧ ComsIn (· < W.heap.size) W v n c ∧ n ≤ 9223372036854775807 ∧ ∀ i, i < n → ComOk (c i) := by
  rcases DataW.trod_slice Try.underlying40 hf with ⟨rfl, _⟩ | ⟨a, len, cap, elems, rest, m, _, rfl, _, _, h1, h2, h3, h4, _⟩
  · exact ⟨_, 0, fun _ => zCom, rfl, ⟨none, 0, rfl, fun _ => ⟨rfl, rfl⟩, fun h => absurd h (by omega)⟩, by omega, fun j hj => absurd hj (by omega)⟩
  · rw [Try.cells57] at h4
    by_cases h0 : 0 < len
    · obtain ⟨b, off, rfl, hlt, hr⟩ := row_at h4 h3 (by omega) h0
      have key : ∀ i, ∃ c : Com, i < len → (∃ pv, W.rangeAt b (off + i * 68) (comL c pv) ∧ IdsIn (· < W.heap.size) W pv c.np c.p) ∧ ComOk c := by
        intro i
        by_cases hi : i < len
        · obtain ⟨cs, y, q1, q2, q3⟩ := hr i hi
          obtain ⟨c, pv, hz, hi', ho⟩ := com_of_trod q3
          exact ⟨c, fun _ => ⟨⟨pv, hz ▸ q1, hi'⟩, ho⟩⟩
        · exact ⟨zCom, fun h => absurd h hi⟩
      exact ⟨_, len, fun i => Classical.choose (key i), rfl, ⟨_, cap, rfl, (fun h => by cases h), fun _ => ⟨b, off, rfl, hlt, fun j hj => (Classical.choose_spec (key j) hj).1⟩⟩, by unfold maxLen at h2; omega, fun j hj => (Classical.choose_spec (key j) hj).2⟩
    · exact ⟨_, len, fun _ => zCom, rfl, ⟨_, cap, rfl, (fun h => by cases h), fun h => absurd h h0⟩, by omega, fun j hj => absurd hj (by omega)⟩
end
theorem open_coms {H : Type} {enc : TypeId × Value → H} {W : World} {r : Reach} {bs : Nat} {spare : Nat → Bool} {held : Bool} {v : Value} {d : DataW H} {p : List MemPlace}
    (hv : Value.okWide Try.prog W r bs 40 v) (h : DataW.Trod enc Try.prog W 0 spare held 40 v d p) :
    ∃ n c, ComsIn (· < W.heap.size) W v n c ∧ n ≤ 9223372036854775807 ∧ ∀ i, i < n → ComOk (c i) := by
  obtain ⟨a, l, cp, rfl⟩ := okWide_slice Try.underlying40 hv
  obtain ⟨fuel, hf⟩ := h
  obtain ⟨v', n, c, e, h1, h2, h3⟩ := coms_of_trod hf
  have e' : [Value.slice a l cp] = [v'] := e
  obtain rfl : Value.slice a l cp = v' := by simpa using e'
  exact ⟨n, c, h1, h2, h3⟩
theorem open_id {H : Type} {enc : TypeId × Value → H} {W : World} {r : Reach} {bs : Nat} {spare : Nat → Bool} {held : Bool} {v : Value} {d : DataW H} {p : List MemPlace}
    (hv : Value.okWide Try.prog W r bs 53 v) (h : DataW.Trod enc Try.prog W 0 spare held 53 v d p) : ∃ z, v = .agg (row 33 z) ∧ IdOk z := by
  obtain ⟨cs, rfl, _⟩ := okWide_struct Try.underlying53 hv
  obtain ⟨fuel, hf⟩ := h
  obtain ⟨z, hz, ho⟩ := id_of_trod hf
  have e : cs.toList = rowL 33 z := hz
  refine ⟨z, ?_, ho⟩
  congr 1
  unfold row
  rw [← e]
end Go.Proofs.Qxb6604526a
