/-
  The closed facts of the rows that hang on the program's head (its 'initOrder'). The head's signs are laid as numbers, its first three words apart from the rest: the facts do not hang on the rest, so the kernel need not take the long text apart.
-/
import Derived.Test.Qxb6602723aRows
import Derived.JoinedOf
import Derived.KernelRfl
namespace Go.Proofs.Qxb6602723a

/-- The head's signs, as numbers: 'harness', the harness's sum, 'cut', the rest. -/
def headOne : List Nat := [104, 97, 114, 110, 101, 115, 115]
def headTwo : List Nat := [100, 57, 100, 102, 53, 97, 53, 49, 52, 52, 54, 97, 98, 97, 52, 53, 52, 51, 98, 98, 98, 55, 51, 52, 97, 55, 101, 53, 48, 54, 57, 57, 54, 102, 100, 55, 102, 49, 97, 52, 52, 52, 55, 55, 101, 55, 50, 55, 53, 49, 53, 49, 56, 48, 50, 101, 57, 55, 100, 52, 99, 102, 56, 99]
def headThree : List Nat := [99, 117, 116]
def headRest : List Nat := [97, 116, 32, 101, 120, 97, 109, 112, 108, 101, 46, 99, 111, 109, 47, 114, 101, 108, 97, 121, 115, 99, 111, 112, 101, 47, 114, 101, 108, 97, 121, 115, 99, 111, 112, 101, 47, 122, 122, 108, 97, 119, 115, 95, 105, 110, 116, 101, 114, 110, 97, 108, 95, 106, 115, 111, 110, 114, 112, 99, 95, 98, 49, 46, 70, 110, 78, 117, 109, 98, 101, 114, 82, 117, 108, 101, 73, 115, 78, 117, 109, 98, 101, 114, 80, 114, 101, 102, 105, 120, 65, 117, 116, 111, 109, 97, 116, 111, 110, 32, 101, 120, 97, 109, 112, 108, 101, 46, 99, 111, 109, 47, 114, 101, 108, 97, 121, 115, 99, 111, 112, 101, 47, 114, 101, 108, 97, 121, 115, 99, 111, 112, 101, 47, 122, 122, 108, 97, 119, 115, 95, 105, 110, 116, 101, 114, 110, 97, 108, 95, 106, 115, 111, 110, 114, 112, 99, 95, 98, 49, 46, 70, 110, 78, 117, 109, 98, 101, 114, 82, 117, 108, 101, 82, 117, 110, 67, 108, 97, 115, 115, 105, 102, 105, 101, 115, 87, 104, 111, 108, 101, 84, 101, 120, 116, 32, 101, 120, 97, 109, 112, 108, 101, 46, 99, 111, 109, 47, 114, 101, 108, 97, 121, 115, 99, 111, 112, 101, 47, 114, 101, 108, 97, 121, 115, 99, 111, 112, 101, 47, 122, 122, 108, 97, 119, 115, 95, 105, 110, 116, 101, 114, 110, 97, 108, 95, 106, 115, 111, 110, 114, 112, 99, 95, 98, 49, 46, 70, 110, 78, 101, 119, 84, 101, 120, 116, 75, 101, 101, 112, 115, 78, 111, 110, 69, 109, 112, 116, 121, 80, 105, 101, 99, 101, 115, 65, 110, 100, 84, 104, 101, 105, 114, 83, 116, 97, 114, 116, 115, 32, 101, 120, 97, 109, 112, 108, 101, 46, 99, 111, 109, 47, 114, 101, 108, 97, 121, 115, 99, 111, 112, 101, 47, 114, 101, 108, 97, 121, 115, 99, 111, 112, 101, 47, 122, 122, 108, 97, 119, 115, 95, 105, 110, 116, 101, 114, 110, 97, 108, 95, 106, 115, 111, 110, 114, 112, 99, 95, 98, 49, 46, 70, 110, 78, 101, 119, 84, 101, 120, 116, 83, 104, 97, 114, 101, 115, 84, 104, 101, 80, 105, 101, 99, 101, 115, 73, 116, 73, 115, 71, 105, 118, 101, 110]
theorem Try.head : Try.prog.initOrder = String.ofList (headOne.map Char.ofNat ++ ' ' :: (headTwo.map Char.ofNat ++ ' ' :: (headThree.map Char.ofNat ++ ' ' :: headRest.map Char.ofNat))) := by kernel_rfl
theorem wordsSigns_word (p : List Char) (r : List Char) (h : p.all (fun c => c != ' ') = true) : wordsSigns (p ++ ' ' :: r) = p :: wordsSigns r := by
  induction p with
  | nil => simp [wordsSigns]
  | cons c p ih =>
    simp only [List.all_cons, Bool.and_eq_true, bne_iff_ne, ne_eq] at h
    have ih' := ih (by simpa using h.2)
    rw [List.cons_append, wordsSigns]
    · rw [ih']
    · exact h.1
theorem Try.headWords : ∃ rest, behindMainWord (wordsSigns Try.prog.initOrder.toList) = headThree.map Char.ofNat :: rest := by
  rw [Try.head, String.toList_ofList, wordsSigns_word _ _ (by kernel_rfl), wordsSigns_word _ _ (by kernel_rfl), wordsSigns_word _ _ (by kernel_rfl)]
  generalize wordsSigns (headRest.map Char.ofNat) = rest
  exact ⟨rest, by kernel_rfl⟩
theorem Try.fLaysLater : Try.prog.laysLater = false := by kernel_rfl
theorem Try.fBearsReflect : Try.prog.bearsReflect = false := by kernel_rfl
theorem Try.fDoorFits : Try.prog.doorFits [] = true := by kernel_rfl
theorem strip_cut (rest : List (List Char)) : stripLifts liftWords (headThree.map Char.ofNat :: rest) = ([], headThree.map Char.ofNat :: rest) := by kernel_rfl
theorem cut_signs : headThree.map Char.ofNat = "cut".toList := by decide
theorem mayEnter_of (P : Program) (rest : List (List Char)) (h : behindMainWord (wordsSigns P.initOrder.toList) = headThree.map Char.ofNat :: rest) (h1 : P.laysLater = false) (h2 : P.bearsReflect = false) (h3 : P.doorFits [] = true) : P.mayEnter = true := by
  have sc : stripLifts liftWords ("cut".toList :: rest) = ([], "cut".toList :: rest) := by rw [← cut_signs]; exact strip_cut rest
  unfold Program.mayEnter
  rw [h, cut_signs]
  simp only [sc, h1, h2, h3]
  simp
theorem make_of (P : Program) (rest : List (List Char)) (h : behindMainWord (wordsSigns P.initOrder.toList) = headThree.map Char.ofNat :: rest) : P.make = some .cut := by
  unfold Program.make
  rw [h]
  simp only [cut_signs]
  rw [if_neg (by decide), if_pos (by simp)]
theorem liftsFinal_of (P : Program) (rest : List (List Char)) (h : behindMainWord (wordsSigns P.initOrder.toList) = headThree.map Char.ofNat :: rest) : P.liftsFinal = false := by
  unfold Program.liftsFinal Program.headLifts
  rw [h]
  simp only [strip_cut]
  kernel_rfl
theorem Try.fMayEnter : Try.prog.mayEnter = true := by
  obtain ⟨rest, h⟩ := Try.headWords
  exact mayEnter_of Try.prog rest h Try.fLaysLater Try.fBearsReflect Try.fDoorFits
theorem Try.fLiftsFinal : Try.prog.liftsFinal = false := by
  obtain ⟨rest, h⟩ := Try.headWords
  exact liftsFinal_of Try.prog rest h
theorem Try.fMake : Try.prog.make = some .cut := by
  obtain ⟨rest, h⟩ := Try.headWords
  exact make_of Try.prog rest h
end Go.Proofs.Qxb6602723a
