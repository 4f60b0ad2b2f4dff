/-
  No cell of these rows narrows 'for every input' (looked for: loops, veiled, ifaces, maps, wideKeys, modest, calm, conditions, laid).
  DERIVED. THE GIVEN ROWS OF THIS SEAT. 3 by the template 'for every input the law returns true; each argument reads behind the call as it read before'; 0 by the template 'total and deterministic' (their statements: Qxb6602401aTotals.lean).
  GIVEN WITH THE SEED: the statements are not yours to turn. If you find one false, say at which input.
  Laid BY PROGRAM, IN A SANDBOX (cutbox-rows.mjs): the forced cells as the released guide's own fill.sh prints them over the translation 7a7f848c46faf9a6… (all of the seat's roots in one cut). By AI agents, Wed Nov 11 2026. No macro, syntax, notation, axiom, sorry.
-/
import Derived.Test.Qxb6602401aChecked
import GoSem.Claim
import GoSem.ClaimJoined
import GoSem.ClaimMapViews
import Derived.JoinedTies
import Derived.KernelRfl
namespace Go.Proofs.Qxb6602401a
/- THE CELL 'sum', in the pinned program and in every row, IS THE sha256 OF THE DUMP (.gsa) THAT Qxb6602401aProg.lean LOADS. Nothing in Lean hashes anything: it is a label: what it is worth is what the hold of that sum in a sandbox is worth. -/
noncomputable def Try.pinned : Pinned := { name := "qxb6602401a", sum := "7a7f848c46faf9a6fd5c8a8b32066037fba25dda482ccbd6968f3c95ed0b4c50", checked := Try.checked }
namespace Rows
def none {H : Type} : Left H := { results := [], args := [] }

/-- 'zzlaws_jsonscan_b1.FnClosingQuoteMatchesEscapeAutomaton': WHATEVER THE INPUT: true; the input reads as it did. -/
def fnClosingQuoteMatchesEscapeAutomatonSpec : ChangeSpec := { name := "fnClosingQuoteMatchesEscapeAutomaton", fn := fun _ => fun
  | [d1, d2] => { results := [.lit (.bool true)], args := [d1, d2] }
  | _ => none }
def fnClosingQuoteMatchesEscapeAutomatonRow : OpenClaim := { program := "qxb6602401a", sum := "7a7f848c46faf9a6fd5c8a8b32066037fba25dda482ccbd6968f3c95ed0b4c50", func := "example.com/methodical-runner/methodical-runner/zzlaws_jsonscan_b1.FnClosingQuoteMatchesEscapeAutomaton", spec := "fnClosingQuoteMatchesEscapeAutomaton", inPlace := ["internal/bytealg.IndexByte"], apart := false }
def FnClosingQuoteMatchesEscapeAutomatonSaid : Prop := fnClosingQuoteMatchesEscapeAutomatonRow.holds Try.pinned (OpenSpec.ofChange fnClosingQuoteMatchesEscapeAutomatonSpec)

/-- ITS FALSE NEIGHBOUR: 'it returns false'. Refute it at one input. -/
def fnClosingQuoteMatchesEscapeAutomatonWrong : ChangeSpec := { name := "fnClosingQuoteMatchesEscapeAutomaton", fn := fun _ => fun
  | [d1, d2] => { results := [.lit (.bool false)], args := [d1, d2] }
  | _ => none }
def FnClosingQuoteMatchesEscapeAutomatonWrongFalsely : Prop := fnClosingQuoteMatchesEscapeAutomatonRow.holds Try.pinned (OpenSpec.ofChange fnClosingQuoteMatchesEscapeAutomatonWrong)

/-- 'zzlaws_jsonscan_b1.FnClosingQuoteIgnoresBytesPastIt': WHATEVER THE INPUT: true; the input reads as it did. -/
def fnClosingQuoteIgnoresBytesPastItSpec : ChangeSpec := { name := "fnClosingQuoteIgnoresBytesPastIt", fn := fun _ => fun
  | [d1, d2, d3] => { results := [.lit (.bool true)], args := [d1, d2, d3] }
  | _ => none }
def fnClosingQuoteIgnoresBytesPastItRow : OpenClaim := { program := "qxb6602401a", sum := "7a7f848c46faf9a6fd5c8a8b32066037fba25dda482ccbd6968f3c95ed0b4c50", func := "example.com/methodical-runner/methodical-runner/zzlaws_jsonscan_b1.FnClosingQuoteIgnoresBytesPastIt", spec := "fnClosingQuoteIgnoresBytesPastIt", inPlace := ["internal/bytealg.IndexByte"], apart := false }
def FnClosingQuoteIgnoresBytesPastItSaid : Prop := fnClosingQuoteIgnoresBytesPastItRow.holds Try.pinned (OpenSpec.ofChange fnClosingQuoteIgnoresBytesPastItSpec)

/-- ITS FALSE NEIGHBOUR: 'it returns false'. Refute it at one input. -/
def fnClosingQuoteIgnoresBytesPastItWrong : ChangeSpec := { name := "fnClosingQuoteIgnoresBytesPastIt", fn := fun _ => fun
  | [d1, d2, d3] => { results := [.lit (.bool false)], args := [d1, d2, d3] }
  | _ => none }
def FnClosingQuoteIgnoresBytesPastItWrongFalsely : Prop := fnClosingQuoteIgnoresBytesPastItRow.holds Try.pinned (OpenSpec.ofChange fnClosingQuoteIgnoresBytesPastItWrong)

/-- 'zzlaws_jsonscan_b1.FnNextLandsPastExactlyOneComma': WHATEVER THE INPUT: true; the input reads as it did. -/
def fnNextLandsPastExactlyOneCommaSpec : ChangeSpec := { name := "fnNextLandsPastExactlyOneComma", fn := fun _ => fun
  | [d1, d2] => { results := [.lit (.bool true)], args := [d1, d2] }
  | _ => none }
def fnNextLandsPastExactlyOneCommaRow : OpenClaim := { program := "qxb6602401a", sum := "7a7f848c46faf9a6fd5c8a8b32066037fba25dda482ccbd6968f3c95ed0b4c50", func := "example.com/methodical-runner/methodical-runner/zzlaws_jsonscan_b1.FnNextLandsPastExactlyOneComma", spec := "fnNextLandsPastExactlyOneComma", apart := false }
def FnNextLandsPastExactlyOneCommaSaid : Prop := fnNextLandsPastExactlyOneCommaRow.holds Try.pinned (OpenSpec.ofChange fnNextLandsPastExactlyOneCommaSpec)

/-- ITS FALSE NEIGHBOUR: 'it returns false'. Refute it at one input. -/
def fnNextLandsPastExactlyOneCommaWrong : ChangeSpec := { name := "fnNextLandsPastExactlyOneComma", fn := fun _ => fun
  | [d1, d2] => { results := [.lit (.bool false)], args := [d1, d2] }
  | _ => none }
def FnNextLandsPastExactlyOneCommaWrongFalsely : Prop := fnNextLandsPastExactlyOneCommaRow.holds Try.pinned (OpenSpec.ofChange fnNextLandsPastExactlyOneCommaWrong)

end Rows
end Go.Proofs.Qxb6602401a
