/-
  '==' on IDs; the order of IDs: the plain law.
-/
import Derived.Test.Qxb6604526aIds
namespace Go.Proofs.Qxb6604526a
open Go.RowKit

/-- The two IDs are the same. -/
def eqId (x y : Nat → Int) : Bool := ((List.range 32).all fun i => x i == y i) && x 32 == y 32
theorem sizeOf_run {P : Program} {t : TypeId} {n : Nat} (h : (P.info? t).map (·.size) = some n) (w : World) : (sizeOf t).run P w = .ok n w := by
  cases hq : P.info? t with
  | none => simp [hq] at h
  | some i =>
    have : i.size = n := by simpa [hq] using h
    simp [sizeOf, typeInfo, hq, this]
theorem Try.size5 : ∀ w, (sizeOf 5).run Try.prog w = .ok 1 w := sizeOf_run (by kernel_rfl)
theorem Try.size22' : ∀ w, (sizeOf 22).run Try.prog w = .ok 32 w := sizeOf_run (by kernel_rfl)
theorem row_extract (x : Nat → Int) (i : Nat) (h : i < 32) : ((row 33 x).extract 0 32)[i]? = some (.int .u8 (x i)) := by
  rw [Array.getElem?_extract]
  have h1 : i < min 32 (row 33 x).size - 0 := by rw [row_size]; omega
  rw [if_pos h1, Nat.zero_add]
  exact row_get 33 x i (by omega)
/-- '==' on a struct of two fields. -/
theorem run_equalIn_two {P : Program} (w : World) (d : Nat) (t : TypeId) (f0 f1 : Field) (ht : P.underlying t = some (.struct #[f0, f1])) (hp : P.stoodInHeld t = false) (n0 : f0.name ≠ "_") (n1 : f1.name ≠ "_")
    (xs ys : Array Value) (x0 y0 x1 y1 : Value) (b0 b1 : Bool)
    (px : (part f0.type xs f0.offset).run P w = .ok x0 w) (py : (part f0.type ys f0.offset).run P w = .ok y0 w) (e0 : (Op.equalIn d f0.type x0 y0).run P w = .ok b0 w)
    (qx : (part f1.type xs f1.offset).run P w = .ok x1 w) (qy : (part f1.type ys f1.offset).run P w = .ok y1 w) (e1 : (Op.equalIn d f1.type x1 y1).run P w = .ok b1 w) :
    (Op.equalIn (d + 1) t (.agg xs) (.agg ys)).run P w = .ok (b0 && b1) w := by
  have hf : P.fieldsOf t = #[f0, f1] := by simp only [Program.fieldsOf, ht]
  rw [run_equalIn_struct w d t xs ys (by rw [hf]; exact ht) hp, hf]
  simp only [Op.eqFields]
  rw [if_pos n0, if_pos n1]
  simp only [Sem.run_bind, px, py, e0, Result.andThen_ok]
  cases b0
  · simp
  · simp only [Bool.not_true, Bool.false_eq_true, if_false, Sem.run_bind, qx, qy, e1, Result.andThen_ok, Bool.true_and]
    cases b1 <;> simp
theorem part_agg {P : Program} (w : World) (t : TypeId) (n e k : Nat) (cs : Array Value) (off : Nat) (ht : P.underlying t = some (.array n e)) (hs : (sizeOf t).run P w = .ok k w) : (part t cs off).run P w = .ok (.agg (cs.extract off (off + k))) w := by
  simp [part, isAgg, run_underlying ht, hs]
theorem part_int {P : Program} (w : World) (t : TypeId) (k : IntKind) (cs : Array Value) (off : Nat) (v : Value) (ht : P.underlying t = some (.int k)) (hs : cs[off]? = some v) : (part t cs off).run P w = .ok v w := by
  simp [part, isAgg, run_underlying ht, hs]
theorem run_eq25 (x y : Nat → Int) (w : World) : (Op.equalIn 10000 25 (.agg (row 33 x)) (.agg (row 33 y))).run Try.prog w = .ok (eqId x y) w :=
  run_equalIn_two w 9999 25 _ _ Try.underlying25 (by kernel_rfl) (by decide) (by decide) _ _ _ _ _ _ _ _
    (part_agg w 22 32 5 32 _ 0 Try.underlying22 (Try.size22' w)) (part_agg w 22 32 5 32 _ 0 Try.underlying22 (Try.size22' w))
    (run_equalIn_ints w 9997 22 5 32 .u8 .u8 Try.underlying22 Try.underlying5 Try.size5 _ _ x y (fun i hi => row_extract x i hi) (fun i hi => row_extract y i hi))
    (part_int w 5 .u8 _ 32 _ Try.underlying5 (row_get 33 x 32 (by omega))) (part_int w 5 .u8 _ 32 _ Try.underlying5 (row_get 33 y 32 (by omega)))
    (run_equalIn_int w 9998 5 .u8 .u8 _ _ Try.underlying5)

/-! ### The order of lists of bytes -/
theorem cb_self : ∀ l : List UInt8, Lib.compareBytes l l = 0
  | [] => rfl
  | a :: l => by
    have h : ¬ a < a := UInt8.lt_irrefl a
    simp [Lib.compareBytes, h, cb_self l]
theorem cb_range : ∀ a b : List UInt8, -1 ≤ Lib.compareBytes a b ∧ Lib.compareBytes a b ≤ 1
  | [], [] => by simp [Lib.compareBytes]
  | [], _ :: _ => by simp [Lib.compareBytes]
  | _ :: _, [] => by simp [Lib.compareBytes]
  | a :: l, b :: m => by
    have ih := cb_range l m
    simp only [Lib.compareBytes]
    split
    · decide
    · split
      · decide
      · exact ih
theorem cb_anti : ∀ a b : List UInt8, Lib.compareBytes b a = - Lib.compareBytes a b
  | [], [] => by simp [Lib.compareBytes]
  | [], _ :: _ => by simp [Lib.compareBytes]
  | _ :: _, [] => by simp [Lib.compareBytes]
  | a :: l, b :: m => by
    have ih := cb_anti l m
    simp only [Lib.compareBytes, UInt8.lt_iff_toNat_lt]
    by_cases h1 : a.toNat < b.toNat
    · have h2 : ¬ b.toNat < a.toNat := by omega
      simp [h1, h2]
    · by_cases h2 : b.toNat < a.toNat
      · simp [h1, h2]
      · simp [h1, h2, ih]
theorem cb_zero : ∀ a b : List UInt8, Lib.compareBytes a b = 0 → a = b
  | [], [], _ => rfl
  | [], _ :: _, h => by simp [Lib.compareBytes] at h
  | _ :: _, [], h => by simp [Lib.compareBytes] at h
  | a :: l, b :: m, h => by
    simp only [Lib.compareBytes, UInt8.lt_iff_toNat_lt] at h
    by_cases h1 : a.toNat < b.toNat
    · simp [h1] at h
    · by_cases h2 : b.toNat < a.toNat
      · simp [h1, h2] at h
      · rw [if_neg h1, if_neg h2] at h
        have e : a = b := UInt8.toNat_inj.1 (by omega)
        rw [e, cb_zero l m h]
theorem cb_trans : ∀ a b c : List UInt8, Lib.compareBytes a b ≤ 0 → Lib.compareBytes b c ≤ 0 → Lib.compareBytes a c ≤ 0
  | [], _, [], _, _ => by simp [Lib.compareBytes]
  | [], _, _ :: _, _, _ => by simp [Lib.compareBytes]
  | _ :: _, [], _, h, _ => by simp [Lib.compareBytes] at h
  | _ :: _, _ :: _, [], _, h => by simp [Lib.compareBytes] at h
  | a :: l, b :: m, c :: n, h, k => by
    have ih := cb_trans l m n
    simp only [Lib.compareBytes, UInt8.lt_iff_toNat_lt] at h k ⊢
    split
    · decide
    · rename_i h1
      by_cases x1 : a.toNat < b.toNat
      · by_cases x2 : b.toNat < c.toNat
        · omega
        · rw [if_neg x2] at k
          by_cases x3 : c.toNat < b.toNat
          · rw [if_pos x3] at k; omega
          · omega
      · rw [if_neg x1] at h
        by_cases x2 : b.toNat < a.toNat
        · rw [if_pos x2] at h; omega
        · rw [if_neg x2] at h
          by_cases x3 : b.toNat < c.toNat
          · omega
          · rw [if_neg x3] at k
            by_cases x4 : c.toNat < b.toNat
            · rw [if_pos x4] at k; omega
            · rw [if_neg x4] at k
              rw [if_neg (by omega)]
              exact ih h k

/-! ### .. and of IDs -/
theorem bytes_inj {x y : Nat → Int} (hx : ∀ i, i < 32 → 0 ≤ x i ∧ x i < 256) (hy : ∀ i, i < 32 → 0 ≤ y i ∧ y i < 256) (h : Lib.bytesOf ((List.range 32).map x) = Lib.bytesOf ((List.range 32).map y)) : ∀ i, i < 32 → x i = y i := by
  intro i hi
  have e : (Lib.bytesOf ((List.range 32).map x))[i]? = (Lib.bytesOf ((List.range 32).map y))[i]? := by rw [h]
  simp only [Lib.bytesOf, List.map_map, List.getElem?_map, List.getElem?_range hi, Option.map_some, Option.some.injEq, Function.comp] at e
  have e2 : (UInt8.ofNat (x i).toNat).toNat = (UInt8.ofNat (y i).toNat).toNat := by rw [e]
  have h1 := hx i hi
  have h2 := hy i hi
  simp only [UInt8.toNat_ofNat'] at e2
  omega
theorem cmpZ_range (x y : Nat → Int) : -1 ≤ cmpZ x y ∧ cmpZ x y ≤ 1 := cb_range _ _
theorem cmpZ_anti (x y : Nat → Int) : cmpZ y x = - cmpZ x y := cb_anti _ _
theorem cmpZ_trans (x y z : Nat → Int) (h : cmpZ x y ≤ 0) (k : cmpZ y z ≤ 0) : cmpZ x z ≤ 0 := cb_trans _ _ _ h k
theorem cmpZ_eq (x y : Nat → Int) (hx : ∀ i, i < 32 → 0 ≤ x i ∧ x i < 256) (hy : ∀ i, i < 32 → 0 ≤ y i ∧ y i < 256) (hn : x 32 = y 32) : (cmpZ x y == 0) = eqId x y := by
  unfold eqId
  rw [Bool.eq_iff_iff]
  simp only [beq_iff_eq, Bool.and_eq_true, List.all_eq_true, List.mem_range, hn, and_true]
  constructor
  · intro h i hi
    exact bytes_inj hx hy (cb_zero _ _ h) i hi
  · intro h
    unfold cmpZ
    rw [show (List.range 32).map x = (List.range 32).map y from List.map_congr_left (fun i hi => h i (by simpa using hi))]
    exact cb_self _
end Go.Proofs.Qxb6604526a
