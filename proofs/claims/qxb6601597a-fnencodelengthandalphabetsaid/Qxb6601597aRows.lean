/-
  No cell of these rows narrows 'for every input' (looked for: loops, veiled, ifaces, maps, wideKeys, modest, calm, conditions, laid).
  DERIVED. THE GIVEN ROWS OF THIS SEAT. 8 by the template 'for every input the law returns true; each argument reads behind the call as it read before'; 0 by the template 'total and deterministic' (their statements: Qxb6601597aTotals.lean).
  GIVEN WITH THE SEED: the statements are not yours to turn. If you find one false, say at which input.
  Laid BY PROGRAM, IN A SANDBOX (cutbox-rows.mjs): the forced cells as the released guide's own fill.sh prints them over the translation 485b70b784690f0e… (all of the seat's roots in one cut). By AI agents, Wed Nov 11 2026. No macro, syntax, notation, axiom, sorry.
-/
import Derived.Test.Qxb6601597aChecked
import GoSem.Claim
import GoSem.ClaimJoined
import GoSem.ClaimMapViews
import Derived.JoinedTies
import Derived.KernelRfl
namespace Go.Proofs.Qxb6601597a
/- THE CELL 'sum', in the pinned program and in every row, IS THE sha256 OF THE DUMP (.gsa) THAT Qxb6601597aProg.lean LOADS. Nothing in Lean hashes anything: it is a label: what it is worth is what the hold of that sum in a sandbox is worth. -/
noncomputable def Try.pinned : Pinned := { name := "qxb6601597a", sum := "485b70b784690f0ea893977d9e5a8f4047426bea29f46605a62d9ef632444891", checked := Try.checked }
namespace Rows
def none {H : Type} : Left H := { results := [], args := [] }

/-- 'zzlaws_internal_crypt_b1.FnEncodeMatchesBitModel': WHATEVER THE INPUT: true; the input reads as it did. -/
def fnEncodeMatchesBitModelSpec : ChangeSpec := { name := "fnEncodeMatchesBitModel", fn := fun _ => fun
  | [d1, d2] => { results := [.lit (.bool true)], args := [d1, d2] }
  | _ => none }
def fnEncodeMatchesBitModelRow : OpenClaim := { program := "qxb6601597a", sum := "485b70b784690f0ea893977d9e5a8f4047426bea29f46605a62d9ef632444891", func := "example.com/grantline/grantline/zzlaws_internal_crypt_b1.FnEncodeMatchesBitModel", spec := "fnEncodeMatchesBitModel", apart := false }
def FnEncodeMatchesBitModelSaid : Prop := fnEncodeMatchesBitModelRow.holds Try.pinned (OpenSpec.ofChange fnEncodeMatchesBitModelSpec)

/-- ITS FALSE NEIGHBOUR: 'it returns false'. Refute it at one input. -/
def fnEncodeMatchesBitModelWrong : ChangeSpec := { name := "fnEncodeMatchesBitModel", fn := fun _ => fun
  | [d1, d2] => { results := [.lit (.bool false)], args := [d1, d2] }
  | _ => none }
def FnEncodeMatchesBitModelWrongFalsely : Prop := fnEncodeMatchesBitModelRow.holds Try.pinned (OpenSpec.ofChange fnEncodeMatchesBitModelWrong)

/-- 'zzlaws_internal_crypt_b1.FnEncodeLengthAndAlphabet': WHATEVER THE INPUT: true; the input reads as it did. -/
def fnEncodeLengthAndAlphabetSpec : ChangeSpec := { name := "fnEncodeLengthAndAlphabet", fn := fun _ => fun
  | [d1, d2] => { results := [.lit (.bool true)], args := [d1, d2] }
  | _ => none }
def fnEncodeLengthAndAlphabetRow : OpenClaim := { program := "qxb6601597a", sum := "485b70b784690f0ea893977d9e5a8f4047426bea29f46605a62d9ef632444891", func := "example.com/grantline/grantline/zzlaws_internal_crypt_b1.FnEncodeLengthAndAlphabet", spec := "fnEncodeLengthAndAlphabet", inPlace := ["internal/bytealg.IndexByteString"], apart := false }
def FnEncodeLengthAndAlphabetSaid : Prop := fnEncodeLengthAndAlphabetRow.holds Try.pinned (OpenSpec.ofChange fnEncodeLengthAndAlphabetSpec)

/-- ITS FALSE NEIGHBOUR: 'it returns false'. Refute it at one input. -/
def fnEncodeLengthAndAlphabetWrong : ChangeSpec := { name := "fnEncodeLengthAndAlphabet", fn := fun _ => fun
  | [d1, d2] => { results := [.lit (.bool false)], args := [d1, d2] }
  | _ => none }
def FnEncodeLengthAndAlphabetWrongFalsely : Prop := fnEncodeLengthAndAlphabetRow.holds Try.pinned (OpenSpec.ofChange fnEncodeLengthAndAlphabetWrong)

/-- 'zzlaws_internal_crypt_b1.FnEncodeSeparatesListedBytes': WHATEVER THE INPUT: true; the input reads as it did. -/
def fnEncodeSeparatesListedBytesSpec : ChangeSpec := { name := "fnEncodeSeparatesListedBytes", fn := fun _ => fun
  | [d1, d2, d3] => { results := [.lit (.bool true)], args := [d1, d2, d3] }
  | _ => none }
def fnEncodeSeparatesListedBytesRow : OpenClaim := { program := "qxb6601597a", sum := "485b70b784690f0ea893977d9e5a8f4047426bea29f46605a62d9ef632444891", func := "example.com/grantline/grantline/zzlaws_internal_crypt_b1.FnEncodeSeparatesListedBytes", spec := "fnEncodeSeparatesListedBytes", apart := false }
def FnEncodeSeparatesListedBytesSaid : Prop := fnEncodeSeparatesListedBytesRow.holds Try.pinned (OpenSpec.ofChange fnEncodeSeparatesListedBytesSpec)

/-- ITS FALSE NEIGHBOUR: 'it returns false'. Refute it at one input. -/
def fnEncodeSeparatesListedBytesWrong : ChangeSpec := { name := "fnEncodeSeparatesListedBytes", fn := fun _ => fun
  | [d1, d2, d3] => { results := [.lit (.bool false)], args := [d1, d2, d3] }
  | _ => none }
def FnEncodeSeparatesListedBytesWrongFalsely : Prop := fnEncodeSeparatesListedBytesRow.holds Try.pinned (OpenSpec.ofChange fnEncodeSeparatesListedBytesWrong)

/-- 'zzlaws_internal_crypt_b1.FnInAlphabetClosedForm': WHATEVER THE INPUT: true; the input reads as it did. -/
def fnInAlphabetClosedFormSpec : ChangeSpec := { name := "fnInAlphabetClosedForm", fn := fun _ => fun
  | [d] => { results := [.lit (.bool true)], args := [d] }
  | _ => none }
def fnInAlphabetClosedFormRow : OpenClaim := { program := "qxb6601597a", sum := "485b70b784690f0ea893977d9e5a8f4047426bea29f46605a62d9ef632444891", func := "example.com/grantline/grantline/zzlaws_internal_crypt_b1.FnInAlphabetClosedForm", spec := "fnInAlphabetClosedForm", inPlace := ["internal/bytealg.IndexByteString"], apart := false }
def FnInAlphabetClosedFormSaid : Prop := fnInAlphabetClosedFormRow.holds Try.pinned (OpenSpec.ofChange fnInAlphabetClosedFormSpec)

/-- ITS FALSE NEIGHBOUR: 'it returns false'. Refute it at one input. -/
def fnInAlphabetClosedFormWrong : ChangeSpec := { name := "fnInAlphabetClosedForm", fn := fun _ => fun
  | [d] => { results := [.lit (.bool false)], args := [d] }
  | _ => none }
def FnInAlphabetClosedFormWrongFalsely : Prop := fnInAlphabetClosedFormRow.holds Try.pinned (OpenSpec.ofChange fnInAlphabetClosedFormWrong)

/-- 'zzlaws_internal_crypt_b1.FnInAlphabetOfConcatenation': WHATEVER THE INPUT: true; the input reads as it did. -/
def fnInAlphabetOfConcatenationSpec : ChangeSpec := { name := "fnInAlphabetOfConcatenation", fn := fun _ => fun
  | [d1, d2] => { results := [.lit (.bool true)], args := [d1, d2] }
  | _ => none }
def fnInAlphabetOfConcatenationRow : OpenClaim := { program := "qxb6601597a", sum := "485b70b784690f0ea893977d9e5a8f4047426bea29f46605a62d9ef632444891", func := "example.com/grantline/grantline/zzlaws_internal_crypt_b1.FnInAlphabetOfConcatenation", spec := "fnInAlphabetOfConcatenation", inPlace := ["internal/bytealg.IndexByteString"], apart := false }
def FnInAlphabetOfConcatenationSaid : Prop := fnInAlphabetOfConcatenationRow.holds Try.pinned (OpenSpec.ofChange fnInAlphabetOfConcatenationSpec)

/-- ITS FALSE NEIGHBOUR: 'it returns false'. Refute it at one input. -/
def fnInAlphabetOfConcatenationWrong : ChangeSpec := { name := "fnInAlphabetOfConcatenation", fn := fun _ => fun
  | [d1, d2] => { results := [.lit (.bool false)], args := [d1, d2] }
  | _ => none }
def FnInAlphabetOfConcatenationWrongFalsely : Prop := fnInAlphabetOfConcatenationRow.holds Try.pinned (OpenSpec.ofChange fnInAlphabetOfConcatenationWrong)

/-- 'zzlaws_internal_crypt_b1.FnStretchIsCyclicRepeat': WHATEVER THE INPUT: true; the input reads as it did. -/
def fnStretchIsCyclicRepeatSpec : ChangeSpec := { name := "fnStretchIsCyclicRepeat", fn := fun _ => fun
  | [d1, d2] => { results := [.lit (.bool true)], args := [d1, d2] }
  | _ => none }
def fnStretchIsCyclicRepeatRow : OpenClaim := { program := "qxb6601597a", sum := "485b70b784690f0ea893977d9e5a8f4047426bea29f46605a62d9ef632444891", func := "example.com/grantline/grantline/zzlaws_internal_crypt_b1.FnStretchIsCyclicRepeat", spec := "fnStretchIsCyclicRepeat", apart := false }
def FnStretchIsCyclicRepeatSaid : Prop := fnStretchIsCyclicRepeatRow.holds Try.pinned (OpenSpec.ofChange fnStretchIsCyclicRepeatSpec)

/-- ITS FALSE NEIGHBOUR: 'it returns false'. Refute it at one input. -/
def fnStretchIsCyclicRepeatWrong : ChangeSpec := { name := "fnStretchIsCyclicRepeat", fn := fun _ => fun
  | [d1, d2] => { results := [.lit (.bool false)], args := [d1, d2] }
  | _ => none }
def FnStretchIsCyclicRepeatWrongFalsely : Prop := fnStretchIsCyclicRepeatRow.holds Try.pinned (OpenSpec.ofChange fnStretchIsCyclicRepeatWrong)

/-- 'zzlaws_internal_crypt_b1.FnStretchPrefixes': WHATEVER THE INPUT: true; the input reads as it did. -/
def fnStretchPrefixesSpec : ChangeSpec := { name := "fnStretchPrefixes", fn := fun _ => fun
  | [d1, d2, d3] => { results := [.lit (.bool true)], args := [d1, d2, d3] }
  | _ => none }
def fnStretchPrefixesRow : OpenClaim := { program := "qxb6601597a", sum := "485b70b784690f0ea893977d9e5a8f4047426bea29f46605a62d9ef632444891", func := "example.com/grantline/grantline/zzlaws_internal_crypt_b1.FnStretchPrefixes", spec := "fnStretchPrefixes", apart := false }
def FnStretchPrefixesSaid : Prop := fnStretchPrefixesRow.holds Try.pinned (OpenSpec.ofChange fnStretchPrefixesSpec)

/-- ITS FALSE NEIGHBOUR: 'it returns false'. Refute it at one input. -/
def fnStretchPrefixesWrong : ChangeSpec := { name := "fnStretchPrefixes", fn := fun _ => fun
  | [d1, d2, d3] => { results := [.lit (.bool false)], args := [d1, d2, d3] }
  | _ => none }
def FnStretchPrefixesWrongFalsely : Prop := fnStretchPrefixesRow.holds Try.pinned (OpenSpec.ofChange fnStretchPrefixesWrong)

/-- 'zzlaws_internal_crypt_b1.FnStretchOfStretchPeriod': WHATEVER THE INPUT: true; the input reads as it did. -/
def fnStretchOfStretchPeriodSpec : ChangeSpec := { name := "fnStretchOfStretchPeriod", fn := fun _ => fun
  | [d1, d2, d3] => { results := [.lit (.bool true)], args := [d1, d2, d3] }
  | _ => none }
def fnStretchOfStretchPeriodRow : OpenClaim := { program := "qxb6601597a", sum := "485b70b784690f0ea893977d9e5a8f4047426bea29f46605a62d9ef632444891", func := "example.com/grantline/grantline/zzlaws_internal_crypt_b1.FnStretchOfStretchPeriod", spec := "fnStretchOfStretchPeriod", apart := false }
def FnStretchOfStretchPeriodSaid : Prop := fnStretchOfStretchPeriodRow.holds Try.pinned (OpenSpec.ofChange fnStretchOfStretchPeriodSpec)

/-- ITS FALSE NEIGHBOUR: 'it returns false'. Refute it at one input. -/
def fnStretchOfStretchPeriodWrong : ChangeSpec := { name := "fnStretchOfStretchPeriod", fn := fun _ => fun
  | [d1, d2, d3] => { results := [.lit (.bool false)], args := [d1, d2, d3] }
  | _ => none }
def FnStretchOfStretchPeriodWrongFalsely : Prop := fnStretchOfStretchPeriodRow.holds Try.pinned (OpenSpec.ofChange fnStretchOfStretchPeriodWrong)

end Rows
end Go.Proofs.Qxb6601597a
