/-
  The closed facts of the rows that hang on the program's head (its 'initOrder'). The head's signs are laid as numbers, its first three words apart from the rest: the facts do not hang on the rest, so the kernel need not take the long text apart.
-/
import Derived.Test.Qxb6604526aRows
import Derived.JoinedOf
import Derived.KernelRfl
namespace Go.Proofs.Qxb6604526a

/-- The head's signs, as numbers: 'harness', the harness's sum, 'cut', the rest. -/
def headOne : List Nat := [104, 97, 114, 110, 101, 115, 115]
def headTwo : List Nat := [57, 55, 52, 99, 56, 55, 53, 99, 49, 97, 100, 99, 54, 102, 54, 51, 56, 54, 48, 98, 56, 99, 51, 52, 52, 56, 54, 48, 102, 52, 49, 48, 52, 55, 55, 102, 56, 51, 54, 54, 99, 48, 50, 53, 53, 55, 101, 54, 49, 102, 49, 49, 55, 57, 99, 57, 55, 53, 101, 57, 53, 57, 57, 99]
def headThree : List Nat := [99, 117, 116]
def headRest : List Nat := [97, 116, 32, 101, 120, 97, 109, 112, 108, 101, 46, 99, 111, 109, 47, 102, 111, 114, 101, 98, 101, 97, 114, 47, 102, 111, 114, 101, 98, 101, 97, 114, 47, 122, 122, 108, 97, 119, 115, 95, 114, 111, 111, 116, 95, 98, 49, 46, 70, 110, 67, 111, 109, 112, 97, 114, 101, 73, 68, 115, 65, 103, 114, 101, 101, 115, 87, 105, 116, 104, 69, 113, 117, 97, 108, 105, 116, 121, 32, 101, 120, 97, 109, 112, 108, 101, 46, 99, 111, 109, 47, 102, 111, 114, 101, 98, 101, 97, 114, 47, 102, 111, 114, 101, 98, 101, 97, 114, 47, 122, 122, 108, 97, 119, 115, 95, 114, 111, 111, 116, 95, 98, 49, 46, 70, 110, 83, 112, 97, 110, 73, 115, 84, 104, 101, 66, 108, 111, 99, 107, 79, 102, 84, 104, 101, 68, 105, 103, 105, 116, 115, 32, 101, 120, 97, 109, 112, 108, 101, 46, 99, 111, 109, 47, 102, 111, 114, 101, 98, 101, 97, 114, 47, 102, 111, 114, 101, 98, 101, 97, 114, 47, 122, 122, 108, 97, 119, 115, 95, 114, 111, 111, 116, 95, 98, 49, 46, 70, 110, 83, 112, 97, 110, 72, 111, 108, 100, 115, 84, 104, 101, 73, 68, 73, 116, 87, 97, 115, 67, 117, 116, 70, 114, 111, 109, 32, 101, 120, 97, 109, 112, 108, 101, 46, 99, 111, 109, 47, 102, 111, 114, 101, 98, 101, 97, 114, 47, 102, 111, 114, 101, 98, 101, 97, 114, 47, 122, 122, 108, 97, 119, 115, 95, 114, 111, 111, 116, 95, 98, 49, 46, 70, 110, 67, 111, 109, 109, 105, 116, 76, 105, 115, 116, 65, 100, 100, 76, 97, 121, 115, 79, 117, 116, 69, 118, 101, 114, 121, 67, 111, 109, 109, 105, 116, 32, 101, 120, 97, 109, 112, 108, 101, 46, 99, 111, 109, 47, 102, 111, 114, 101, 98, 101, 97, 114, 47, 102, 111, 114, 101, 98, 101, 97, 114, 47, 122, 122, 108, 97, 119, 115, 95, 114, 111, 111, 116, 95, 98, 49, 46, 70, 110, 67, 111, 109, 109, 105, 116, 76, 105, 115, 116, 65, 100, 100, 75, 101, 101, 112, 115, 78, 111, 72, 111, 108, 100, 79, 102, 84, 104, 101, 80, 97, 114, 101, 110, 116, 115]
theorem Try.head : Try.prog.initOrder = String.ofList (headOne.map Char.ofNat ++ ' ' :: (headTwo.map Char.ofNat ++ ' ' :: (headThree.map Char.ofNat ++ ' ' :: headRest.map Char.ofNat))) := by kernel_rfl
theorem wordsSigns_word (p : List Char) (r : List Char) (h : p.all (fun c => c != ' ') = true) : wordsSigns (p ++ ' ' :: r) = p :: wordsSigns r := by
  induction p with
  | nil => simp [wordsSigns]
  | cons c p ih =>
    simp only [List.all_cons, Bool.and_eq_true, bne_iff_ne, ne_eq] at h
    have ih' := ih (by simpa using h.2)
    rw [List.cons_append, wordsSigns]
    · rw [ih']
    · exact h.1
theorem Try.headWords : ∃ rest, behindMainWord (wordsSigns Try.prog.initOrder.toList) = headThree.map Char.ofNat :: rest := by
  rw [Try.head, String.toList_ofList, wordsSigns_word _ _ (by kernel_rfl), wordsSigns_word _ _ (by kernel_rfl), wordsSigns_word _ _ (by kernel_rfl)]
  generalize wordsSigns (headRest.map Char.ofNat) = rest
  exact ⟨rest, by kernel_rfl⟩
theorem Try.fLaysLater : Try.prog.laysLater = false := by kernel_rfl
theorem Try.fBearsReflect : Try.prog.bearsReflect = false := by kernel_rfl
theorem Try.fDoorFits : Try.prog.doorFits [] = true := by kernel_rfl
theorem strip_cut (rest : List (List Char)) : stripLifts liftWords (headThree.map Char.ofNat :: rest) = ([], headThree.map Char.ofNat :: rest) := by kernel_rfl
theorem cut_signs : headThree.map Char.ofNat = "cut".toList := by decide
theorem mayEnter_of (P : Program) (rest : List (List Char)) (h : behindMainWord (wordsSigns P.initOrder.toList) = headThree.map Char.ofNat :: rest) (h1 : P.laysLater = false) (h2 : P.bearsReflect = false) (h3 : P.doorFits [] = true) : P.mayEnter = true := by
  have sc : stripLifts liftWords ("cut".toList :: rest) = ([], "cut".toList :: rest) := by rw [← cut_signs]; exact strip_cut rest
  unfold Program.mayEnter
  rw [h, cut_signs]
  simp only [sc, h1, h2, h3]
  simp
theorem make_of (P : Program) (rest : List (List Char)) (h : behindMainWord (wordsSigns P.initOrder.toList) = headThree.map Char.ofNat :: rest) : P.make = some .cut := by
  unfold Program.make
  rw [h]
  simp only [cut_signs]
  rw [if_neg (by decide), if_pos (by simp)]
theorem liftsFinal_of (P : Program) (rest : List (List Char)) (h : behindMainWord (wordsSigns P.initOrder.toList) = headThree.map Char.ofNat :: rest) : P.liftsFinal = false := by
  unfold Program.liftsFinal Program.headLifts
  rw [h]
  simp only [strip_cut]
  kernel_rfl
theorem Try.fMayEnter : Try.prog.mayEnter = true := by
  obtain ⟨rest, h⟩ := Try.headWords
  exact mayEnter_of Try.prog rest h Try.fLaysLater Try.fBearsReflect Try.fDoorFits
theorem Try.fLiftsFinal : Try.prog.liftsFinal = false := by
  obtain ⟨rest, h⟩ := Try.headWords
  exact liftsFinal_of Try.prog rest h
theorem Try.fMake : Try.prog.make = some .cut := by
  obtain ⟨rest, h⟩ := Try.headWords
  exact make_of Try.prog rest h
end Go.Proofs.Qxb6604526a
