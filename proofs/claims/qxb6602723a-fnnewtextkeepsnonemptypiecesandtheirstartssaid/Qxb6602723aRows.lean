/-
  No cell of these rows narrows 'for every input' (looked for: loops, veiled, ifaces, maps, wideKeys, modest, calm, conditions, laid).
  DERIVED. THE GIVEN ROWS OF THIS SEAT. 4 by the template 'for every input the law returns true; each argument reads behind the call as it read before'; 0 by the template 'total and deterministic' (their statements: Qxb6602723aTotals.lean).
  GIVEN WITH THE SEED: the statements are not yours to turn. If you find one false, say at which input.
  Laid BY PROGRAM, IN A SANDBOX (cutbox-rows.mjs): the forced cells as the released guide's own fill.sh prints them over the translation c8d2daabe1aea51c… (all of the seat's roots in one cut). By AI agents, Wed Nov 11 2026. No macro, syntax, notation, axiom, sorry.
-/
import Derived.Test.Qxb6602723aChecked
import GoSem.Claim
import GoSem.ClaimJoined
import GoSem.ClaimMapViews
import Derived.JoinedTies
import Derived.KernelRfl
namespace Go.Proofs.Qxb6602723a
/- THE CELL 'sum', in the pinned program and in every row, IS THE sha256 OF THE DUMP (.gsa) THAT Qxb6602723aProg.lean LOADS. Nothing in Lean hashes anything: it is a label: what it is worth is what the hold of that sum in a sandbox is worth. -/
noncomputable def Try.pinned : Pinned := { name := "qxb6602723a", sum := "c8d2daabe1aea51c8595f845e96a76eb14c86a98fd4fa038292166865ee003f7", checked := Try.checked }
namespace Rows
def none {H : Type} : Left H := { results := [], args := [] }

/-- 'zzlaws_internal_jsonrpc_b1.FnNumberRuleIsNumberPrefixAutomaton': WHATEVER THE INPUT: true; the input reads as it did. -/
def fnNumberRuleIsNumberPrefixAutomatonSpec : ChangeSpec := { name := "fnNumberRuleIsNumberPrefixAutomaton", fn := fun _ => fun
  | [d1, d2] => { results := [.lit (.bool true)], args := [d1, d2] }
  | _ => none }
def fnNumberRuleIsNumberPrefixAutomatonRow : OpenClaim := { program := "qxb6602723a", sum := "c8d2daabe1aea51c8595f845e96a76eb14c86a98fd4fa038292166865ee003f7", func := "example.com/relayscope/relayscope/zzlaws_internal_jsonrpc_b1.FnNumberRuleIsNumberPrefixAutomaton", spec := "fnNumberRuleIsNumberPrefixAutomaton", apart := false }
def FnNumberRuleIsNumberPrefixAutomatonSaid : Prop := fnNumberRuleIsNumberPrefixAutomatonRow.holds Try.pinned (OpenSpec.ofChange fnNumberRuleIsNumberPrefixAutomatonSpec)

/-- ITS FALSE NEIGHBOUR: 'it returns false'. Refute it at one input. -/
def fnNumberRuleIsNumberPrefixAutomatonWrong : ChangeSpec := { name := "fnNumberRuleIsNumberPrefixAutomaton", fn := fun _ => fun
  | [d1, d2] => { results := [.lit (.bool false)], args := [d1, d2] }
  | _ => none }
def FnNumberRuleIsNumberPrefixAutomatonWrongFalsely : Prop := fnNumberRuleIsNumberPrefixAutomatonRow.holds Try.pinned (OpenSpec.ofChange fnNumberRuleIsNumberPrefixAutomatonWrong)

/-- 'zzlaws_internal_jsonrpc_b1.FnNumberRuleRunClassifiesWholeText': WHATEVER THE INPUT: true; the input reads as it did. -/
def fnNumberRuleRunClassifiesWholeTextSpec : ChangeSpec := { name := "fnNumberRuleRunClassifiesWholeText", fn := fun _ => fun
  | [d] => { results := [.lit (.bool true)], args := [d] }
  | _ => none }
def fnNumberRuleRunClassifiesWholeTextRow : OpenClaim := { program := "qxb6602723a", sum := "c8d2daabe1aea51c8595f845e96a76eb14c86a98fd4fa038292166865ee003f7", func := "example.com/relayscope/relayscope/zzlaws_internal_jsonrpc_b1.FnNumberRuleRunClassifiesWholeText", spec := "fnNumberRuleRunClassifiesWholeText", apart := false }
def FnNumberRuleRunClassifiesWholeTextSaid : Prop := fnNumberRuleRunClassifiesWholeTextRow.holds Try.pinned (OpenSpec.ofChange fnNumberRuleRunClassifiesWholeTextSpec)

/-- ITS FALSE NEIGHBOUR: 'it returns false'. Refute it at one input. -/
def fnNumberRuleRunClassifiesWholeTextWrong : ChangeSpec := { name := "fnNumberRuleRunClassifiesWholeText", fn := fun _ => fun
  | [d] => { results := [.lit (.bool false)], args := [d] }
  | _ => none }
def FnNumberRuleRunClassifiesWholeTextWrongFalsely : Prop := fnNumberRuleRunClassifiesWholeTextRow.holds Try.pinned (OpenSpec.ofChange fnNumberRuleRunClassifiesWholeTextWrong)

/-- 'zzlaws_internal_jsonrpc_b1.FnNewTextKeepsNonEmptyPiecesAndTheirStarts': WHATEVER THE INPUT: true; the input reads as it did. -/
def fnNewTextKeepsNonEmptyPiecesAndTheirStartsSpec : ChangeSpec := { name := "fnNewTextKeepsNonEmptyPiecesAndTheirStarts", fn := fun _ => fun
  | [d] => { results := [.lit (.bool true)], args := [d] }
  | _ => none }
def fnNewTextKeepsNonEmptyPiecesAndTheirStartsRow : OpenClaim := { program := "qxb6602723a", sum := "c8d2daabe1aea51c8595f845e96a76eb14c86a98fd4fa038292166865ee003f7", func := "example.com/relayscope/relayscope/zzlaws_internal_jsonrpc_b1.FnNewTextKeepsNonEmptyPiecesAndTheirStarts", spec := "fnNewTextKeepsNonEmptyPiecesAndTheirStarts", unfollowed := true, recurses := true, apart := false }
def FnNewTextKeepsNonEmptyPiecesAndTheirStartsSaid : Prop := fnNewTextKeepsNonEmptyPiecesAndTheirStartsRow.holds Try.pinned (OpenSpec.ofChange fnNewTextKeepsNonEmptyPiecesAndTheirStartsSpec)

/-- ITS FALSE NEIGHBOUR: 'it returns false'. Refute it at one input. -/
def fnNewTextKeepsNonEmptyPiecesAndTheirStartsWrong : ChangeSpec := { name := "fnNewTextKeepsNonEmptyPiecesAndTheirStarts", fn := fun _ => fun
  | [d] => { results := [.lit (.bool false)], args := [d] }
  | _ => none }
def FnNewTextKeepsNonEmptyPiecesAndTheirStartsWrongFalsely : Prop := fnNewTextKeepsNonEmptyPiecesAndTheirStartsRow.holds Try.pinned (OpenSpec.ofChange fnNewTextKeepsNonEmptyPiecesAndTheirStartsWrong)

/-- 'zzlaws_internal_jsonrpc_b1.FnNewTextSharesThePiecesItIsGiven': WHATEVER THE INPUT: true; the input reads as it did. -/
def fnNewTextSharesThePiecesItIsGivenSpec : ChangeSpec := { name := "fnNewTextSharesThePiecesItIsGiven", fn := fun _ => fun
  | [d] => { results := [.lit (.bool true)], args := [d] }
  | _ => none }
def fnNewTextSharesThePiecesItIsGivenRow : OpenClaim := { program := "qxb6602723a", sum := "c8d2daabe1aea51c8595f845e96a76eb14c86a98fd4fa038292166865ee003f7", func := "example.com/relayscope/relayscope/zzlaws_internal_jsonrpc_b1.FnNewTextSharesThePiecesItIsGiven", spec := "fnNewTextSharesThePiecesItIsGiven", unfollowed := true, recurses := true, apart := false }
def FnNewTextSharesThePiecesItIsGivenSaid : Prop := fnNewTextSharesThePiecesItIsGivenRow.holds Try.pinned (OpenSpec.ofChange fnNewTextSharesThePiecesItIsGivenSpec)

/-- ITS FALSE NEIGHBOUR: 'it returns false'. Refute it at one input. -/
def fnNewTextSharesThePiecesItIsGivenWrong : ChangeSpec := { name := "fnNewTextSharesThePiecesItIsGiven", fn := fun _ => fun
  | [d] => { results := [.lit (.bool false)], args := [d] }
  | _ => none }
def FnNewTextSharesThePiecesItIsGivenWrongFalsely : Prop := fnNewTextSharesThePiecesItIsGivenRow.holds Try.pinned (OpenSpec.ofChange fnNewTextSharesThePiecesItIsGivenWrong)

end Rows
end Go.Proofs.Qxb6602723a
