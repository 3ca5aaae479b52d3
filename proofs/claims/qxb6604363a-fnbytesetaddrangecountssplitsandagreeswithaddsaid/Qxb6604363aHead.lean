/-
  The closed facts of the rows that hang on the program's head (its 'initOrder'). The head's signs are laid as numbers, its first three words apart from the rest: the facts do not hang on the rest, so the kernel need not take the long text apart.
-/
import Derived.Test.Qxb6604363aRows
import Derived.JoinedOf
import Derived.KernelRfl
namespace Go.Proofs.Qxb6604363a

/-- The head's signs, as numbers: 'harness', the harness's sum, 'cut', the rest. -/
def headOne : List Nat := [104, 97, 114, 110, 101, 115, 115]
def headTwo : List Nat := [51, 49, 56, 100, 55, 57, 54, 100, 100, 49, 55, 51, 53, 53, 49, 51, 52, 101, 54, 98, 98, 97, 56, 51, 48, 54, 99, 98, 54, 102, 98, 101, 99, 54, 53, 52, 57, 57, 102, 57, 97, 54, 57, 56, 50, 56, 98, 97, 99, 55, 98, 51, 50, 57, 50, 50, 100, 102, 101, 101, 50, 50, 99, 57]
def headThree : List Nat := [99, 117, 116]
def headRest : List Nat := [97, 116, 32, 101, 120, 97, 109, 112, 108, 101, 46, 99, 111, 109, 47, 110, 97, 114, 114, 111, 119, 45, 103, 97, 116, 101, 47, 110, 97, 114, 114, 111, 119, 45, 103, 97, 116, 101, 47, 122, 122, 108, 97, 119, 115, 95, 105, 110, 116, 101, 114, 110, 97, 108, 95, 114, 101, 103, 101, 120, 95, 98, 49, 46, 70, 110, 66, 121, 116, 101, 83, 101, 116, 65, 100, 100, 73, 115, 83, 101, 116, 73, 110, 115, 101, 114, 116, 32, 101, 120, 97, 109, 112, 108, 101, 46, 99, 111, 109, 47, 110, 97, 114, 114, 111, 119, 45, 103, 97, 116, 101, 47, 110, 97, 114, 114, 111, 119, 45, 103, 97, 116, 101, 47, 122, 122, 108, 97, 119, 115, 95, 105, 110, 116, 101, 114, 110, 97, 108, 95, 114, 101, 103, 101, 120, 95, 98, 49, 46, 70, 110, 66, 121, 116, 101, 83, 101, 116, 65, 100, 100, 65, 103, 114, 101, 101, 115, 87, 105, 116, 104, 72, 97, 115, 65, 110, 100, 67, 111, 117, 110, 116, 32, 101, 120, 97, 109, 112, 108, 101, 46, 99, 111, 109, 47, 110, 97, 114, 114, 111, 119, 45, 103, 97, 116, 101, 47, 110, 97, 114, 114, 111, 119, 45, 103, 97, 116, 101, 47, 122, 122, 108, 97, 119, 115, 95, 105, 110, 116, 101, 114, 110, 97, 108, 95, 114, 101, 103, 101, 120, 95, 98, 49, 46, 70, 110, 66, 121, 116, 101, 83, 101, 116, 65, 100, 100, 82, 97, 110, 103, 101, 73, 115, 73, 110, 116, 101, 114, 118, 97, 108, 85, 110, 105, 111, 110, 32, 101, 120, 97, 109, 112, 108, 101, 46, 99, 111, 109, 47, 110, 97, 114, 114, 111, 119, 45, 103, 97, 116, 101, 47, 110, 97, 114, 114, 111, 119, 45, 103, 97, 116, 101, 47, 122, 122, 108, 97, 119, 115, 95, 105, 110, 116, 101, 114, 110, 97, 108, 95, 114, 101, 103, 101, 120, 95, 98, 49, 46, 70, 110, 66, 121, 116, 101, 83, 101, 116, 65, 100, 100, 82, 97, 110, 103, 101, 67, 111, 117, 110, 116, 115, 83, 112, 108, 105, 116, 115, 65, 110, 100, 65, 103, 114, 101, 101, 115, 87, 105, 116, 104, 65, 100, 100, 32, 101, 120, 97, 109, 112, 108, 101, 46, 99, 111, 109, 47, 110, 97, 114, 114, 111, 119, 45, 103, 97, 116, 101, 47, 110, 97, 114, 114, 111, 119, 45, 103, 97, 116, 101, 47, 122, 122, 108, 97, 119, 115, 95, 105, 110, 116, 101, 114, 110, 97, 108, 95, 114, 101, 103, 101, 120, 95, 98, 49, 46, 70, 110, 83, 108, 111, 116, 76, 97, 121, 111, 117, 116, 84, 105, 108, 101, 115, 69, 120, 97, 99, 116, 108, 121, 32, 101, 120, 97, 109, 112, 108, 101, 46, 99, 111, 109, 47, 110, 97, 114, 114, 111, 119, 45, 103, 97, 116, 101, 47, 110, 97, 114, 114, 111, 119, 45, 103, 97, 116, 101, 47, 122, 122, 108, 97, 119, 115, 95, 105, 110, 116, 101, 114, 110, 97, 108, 95, 114, 101, 103, 101, 120, 95, 98, 49, 46, 70, 110, 83, 108, 111, 116, 68, 105, 115, 116, 105, 110, 99, 116, 65, 110, 100, 79, 114, 100, 101, 114, 101, 100, 32, 101, 120, 97, 109, 112, 108, 101, 46, 99, 111, 109, 47, 110, 97, 114, 114, 111, 119, 45, 103, 97, 116, 101, 47, 110, 97, 114, 114, 111, 119, 45, 103, 97, 116, 101, 47, 122, 122, 108, 97, 119, 115, 95, 105, 110, 116, 101, 114, 110, 97, 108, 95, 114, 101, 103, 101, 120, 95, 98, 49, 46, 70, 110, 69, 109, 105, 116, 67, 108, 97, 115, 115, 101, 115, 78, 117, 109, 98, 101, 114, 101, 100, 66, 121, 70, 105, 114, 115, 116, 83, 105, 103, 104, 116, 32, 101, 120, 97, 109, 112, 108, 101, 46, 99, 111, 109, 47, 110, 97, 114, 114, 111, 119, 45, 103, 97, 116, 101, 47, 110, 97, 114, 114, 111, 119, 45, 103, 97, 116, 101, 47, 122, 122, 108, 97, 119, 115, 95, 105, 110, 116, 101, 114, 110, 97, 108, 95, 114, 101, 103, 101, 120, 95, 98, 49, 46, 70, 110, 69, 109, 105, 116, 76, 111, 111, 107, 79, 114, 65, 116, 111, 109, 105, 99, 65, 102, 116, 101, 114, 80, 114, 101, 102, 105, 120]
theorem Try.head : Try.prog.initOrder = String.ofList (headOne.map Char.ofNat ++ ' ' :: (headTwo.map Char.ofNat ++ ' ' :: (headThree.map Char.ofNat ++ ' ' :: headRest.map Char.ofNat))) := by kernel_rfl
theorem wordsSigns_word (p : List Char) (r : List Char) (h : p.all (fun c => c != ' ') = true) : wordsSigns (p ++ ' ' :: r) = p :: wordsSigns r := by
  induction p with
  | nil => simp [wordsSigns]
  | cons c p ih =>
    simp only [List.all_cons, Bool.and_eq_true, bne_iff_ne, ne_eq] at h
    have ih' := ih (by simpa using h.2)
    rw [List.cons_append, wordsSigns]
    · rw [ih']
    · exact h.1
theorem Try.headWords : ∃ rest, behindMainWord (wordsSigns Try.prog.initOrder.toList) = headThree.map Char.ofNat :: rest := by
  rw [Try.head, String.toList_ofList, wordsSigns_word _ _ (by kernel_rfl), wordsSigns_word _ _ (by kernel_rfl), wordsSigns_word _ _ (by kernel_rfl)]
  generalize wordsSigns (headRest.map Char.ofNat) = rest
  exact ⟨rest, by kernel_rfl⟩
theorem Try.fLaysLater : Try.prog.laysLater = false := by kernel_rfl
theorem Try.fBearsReflect : Try.prog.bearsReflect = false := by kernel_rfl
theorem Try.fDoorFits : Try.prog.doorFits [] = true := by kernel_rfl
theorem strip_cut (rest : List (List Char)) : stripLifts liftWords (headThree.map Char.ofNat :: rest) = ([], headThree.map Char.ofNat :: rest) := by kernel_rfl
theorem cut_signs : headThree.map Char.ofNat = "cut".toList := by decide
theorem mayEnter_of (P : Program) (rest : List (List Char)) (h : behindMainWord (wordsSigns P.initOrder.toList) = headThree.map Char.ofNat :: rest) (h1 : P.laysLater = false) (h2 : P.bearsReflect = false) (h3 : P.doorFits [] = true) : P.mayEnter = true := by
  have sc : stripLifts liftWords ("cut".toList :: rest) = ([], "cut".toList :: rest) := by rw [← cut_signs]; exact strip_cut rest
  unfold Program.mayEnter
  rw [h, cut_signs]
  simp only [sc, h1, h2, h3]
  simp
theorem make_of (P : Program) (rest : List (List Char)) (h : behindMainWord (wordsSigns P.initOrder.toList) = headThree.map Char.ofNat :: rest) : P.make = some .cut := by
  unfold Program.make
  rw [h]
  simp only [cut_signs]
  rw [if_neg (by decide), if_pos (by simp)]
theorem liftsFinal_of (P : Program) (rest : List (List Char)) (h : behindMainWord (wordsSigns P.initOrder.toList) = headThree.map Char.ofNat :: rest) : P.liftsFinal = false := by
  unfold Program.liftsFinal Program.headLifts
  rw [h]
  simp only [strip_cut]
  kernel_rfl
theorem Try.fMayEnter : Try.prog.mayEnter = true := by
  obtain ⟨rest, h⟩ := Try.headWords
  exact mayEnter_of Try.prog rest h Try.fLaysLater Try.fBearsReflect Try.fDoorFits
theorem Try.fLiftsFinal : Try.prog.liftsFinal = false := by
  obtain ⟨rest, h⟩ := Try.headWords
  exact liftsFinal_of Try.prog rest h
theorem Try.fMake : Try.prog.make = some .cut := by
  obtain ⟨rest, h⟩ := Try.headWords
  exact make_of Try.prog rest h
end Go.Proofs.Qxb6604363a
