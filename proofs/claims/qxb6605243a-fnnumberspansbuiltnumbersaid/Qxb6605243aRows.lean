/-
  No cell of these rows narrows 'for every input' (looked for: loops, veiled, ifaces, maps, wideKeys, modest, calm, conditions, laid).
  DERIVED. THE GIVEN ROWS OF THIS SEAT. 4 by the template 'for every input the law returns true; each argument reads behind the call as it read before'; 0 by the template 'total and deterministic' (their statements: Qxb6605243aTotals.lean).
  GIVEN WITH THE SEED: the statements are not yours to turn. If you find one false, say at which input.
  Laid BY PROGRAM, IN A SANDBOX (cutbox-rows.mjs): the forced cells as the released guide's own fill.sh prints them over the translation 9b0b2630ee187312… (all of the seat's roots in one cut). By AI agents, Wed Nov 11 2026. No macro, syntax, notation, axiom, sorry.
-/
import Derived.Test.Qxb6605243aChecked
import GoSem.Claim
import GoSem.ClaimJoined
import GoSem.ClaimMapViews
import Derived.JoinedTies
import Derived.KernelRfl
namespace Go.Proofs.Qxb6605243a
/- THE CELL 'sum', in the pinned program and in every row, IS THE sha256 OF THE DUMP (.gsa) THAT Qxb6605243aProg.lean LOADS. Nothing in Lean hashes anything: it is a label: what it is worth is what the hold of that sum in a sandbox is worth. -/
noncomputable def Try.pinned : Pinned := { name := "qxb6605243a", sum := "9b0b2630ee187312519e3be9cb35e42281679514cd807e89d4d2fce1c3e99a94", checked := Try.checked }
namespace Rows
def none {H : Type} : Left H := { results := [], args := [] }

/-- 'zzlaws_wire_b1.FnHex4ExactByDigitSearch': WHATEVER THE INPUT: true; the input reads as it did. -/
def fnHex4ExactByDigitSearchSpec : ChangeSpec := { name := "fnHex4ExactByDigitSearch", fn := fun _ => fun
  | [d] => { results := [.lit (.bool true)], args := [d] }
  | _ => none }
def fnHex4ExactByDigitSearchRow : OpenClaim := { program := "qxb6605243a", sum := "9b0b2630ee187312519e3be9cb35e42281679514cd807e89d4d2fce1c3e99a94", func := "example.com/utusan/utusan/zzlaws_wire_b1.FnHex4ExactByDigitSearch", spec := "fnHex4ExactByDigitSearch", apart := false }
def FnHex4ExactByDigitSearchSaid : Prop := fnHex4ExactByDigitSearchRow.holds Try.pinned (OpenSpec.ofChange fnHex4ExactByDigitSearchSpec)

/-- ITS FALSE NEIGHBOUR: 'it returns false'. Refute it at one input. -/
def fnHex4ExactByDigitSearchWrong : ChangeSpec := { name := "fnHex4ExactByDigitSearch", fn := fun _ => fun
  | [d] => { results := [.lit (.bool false)], args := [d] }
  | _ => none }
def FnHex4ExactByDigitSearchWrongFalsely : Prop := fnHex4ExactByDigitSearchRow.holds Try.pinned (OpenSpec.ofChange fnHex4ExactByDigitSearchWrong)

/-- 'zzlaws_wire_b1.FnHex4ReadsBackFourDigits': WHATEVER THE INPUT: true; the input reads as it did. -/
def fnHex4ReadsBackFourDigitsSpec : ChangeSpec := { name := "fnHex4ReadsBackFourDigits", fn := fun _ => fun
  | [d1, d2, d3] => { results := [.lit (.bool true)], args := [d1, d2, d3] }
  | _ => none }
def fnHex4ReadsBackFourDigitsRow : OpenClaim := { program := "qxb6605243a", sum := "9b0b2630ee187312519e3be9cb35e42281679514cd807e89d4d2fce1c3e99a94", func := "example.com/utusan/utusan/zzlaws_wire_b1.FnHex4ReadsBackFourDigits", spec := "fnHex4ReadsBackFourDigits", apart := false }
def FnHex4ReadsBackFourDigitsSaid : Prop := fnHex4ReadsBackFourDigitsRow.holds Try.pinned (OpenSpec.ofChange fnHex4ReadsBackFourDigitsSpec)

/-- ITS FALSE NEIGHBOUR: 'it returns false'. Refute it at one input. -/
def fnHex4ReadsBackFourDigitsWrong : ChangeSpec := { name := "fnHex4ReadsBackFourDigits", fn := fun _ => fun
  | [d1, d2, d3] => { results := [.lit (.bool false)], args := [d1, d2, d3] }
  | _ => none }
def FnHex4ReadsBackFourDigitsWrongFalsely : Prop := fnHex4ReadsBackFourDigitsRow.holds Try.pinned (OpenSpec.ofChange fnHex4ReadsBackFourDigitsWrong)

/-- 'zzlaws_wire_b1.FnNumberAgreesWithGrammarAutomaton': WHATEVER THE INPUT: true; the input reads as it did. -/
def fnNumberAgreesWithGrammarAutomatonSpec : ChangeSpec := { name := "fnNumberAgreesWithGrammarAutomaton", fn := fun _ => fun
  | [d1, d2] => { results := [.lit (.bool true)], args := [d1, d2] }
  | _ => none }
def fnNumberAgreesWithGrammarAutomatonRow : OpenClaim := { program := "qxb6605243a", sum := "9b0b2630ee187312519e3be9cb35e42281679514cd807e89d4d2fce1c3e99a94", func := "example.com/utusan/utusan/zzlaws_wire_b1.FnNumberAgreesWithGrammarAutomaton", spec := "fnNumberAgreesWithGrammarAutomaton", apart := false }
def FnNumberAgreesWithGrammarAutomatonSaid : Prop := fnNumberAgreesWithGrammarAutomatonRow.holds Try.pinned (OpenSpec.ofChange fnNumberAgreesWithGrammarAutomatonSpec)

/-- ITS FALSE NEIGHBOUR: 'it returns false'. Refute it at one input. -/
def fnNumberAgreesWithGrammarAutomatonWrong : ChangeSpec := { name := "fnNumberAgreesWithGrammarAutomaton", fn := fun _ => fun
  | [d1, d2] => { results := [.lit (.bool false)], args := [d1, d2] }
  | _ => none }
def FnNumberAgreesWithGrammarAutomatonWrongFalsely : Prop := fnNumberAgreesWithGrammarAutomatonRow.holds Try.pinned (OpenSpec.ofChange fnNumberAgreesWithGrammarAutomatonWrong)

/-- 'zzlaws_wire_b1.FnNumberSpansBuiltNumber': WHATEVER THE INPUT: true; the input reads as it did. -/
def fnNumberSpansBuiltNumberSpec : ChangeSpec := { name := "fnNumberSpansBuiltNumber", fn := fun _ => fun
  | [d1, d2, d3, d4, d5, d6, d7, d8, d9, d10] => { results := [.lit (.bool true)], args := [d1, d2, d3, d4, d5, d6, d7, d8, d9, d10] }
  | _ => none }
def fnNumberSpansBuiltNumberRow : OpenClaim := { program := "qxb6605243a", sum := "9b0b2630ee187312519e3be9cb35e42281679514cd807e89d4d2fce1c3e99a94", func := "example.com/utusan/utusan/zzlaws_wire_b1.FnNumberSpansBuiltNumber", spec := "fnNumberSpansBuiltNumber", apart := false }
def FnNumberSpansBuiltNumberSaid : Prop := fnNumberSpansBuiltNumberRow.holds Try.pinned (OpenSpec.ofChange fnNumberSpansBuiltNumberSpec)

/-- ITS FALSE NEIGHBOUR: 'it returns false'. Refute it at one input. -/
def fnNumberSpansBuiltNumberWrong : ChangeSpec := { name := "fnNumberSpansBuiltNumber", fn := fun _ => fun
  | [d1, d2, d3, d4, d5, d6, d7, d8, d9, d10] => { results := [.lit (.bool false)], args := [d1, d2, d3, d4, d5, d6, d7, d8, d9, d10] }
  | _ => none }
def FnNumberSpansBuiltNumberWrongFalsely : Prop := fnNumberSpansBuiltNumberRow.holds Try.pinned (OpenSpec.ofChange fnNumberSpansBuiltNumberWrong)

end Rows
end Go.Proofs.Qxb6605243a
