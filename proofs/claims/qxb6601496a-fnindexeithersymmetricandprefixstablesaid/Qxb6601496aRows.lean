/-
  No cell of these rows narrows 'for every input' (looked for: loops, veiled, ifaces, maps, wideKeys, modest, calm, conditions, laid).
  DERIVED. THE GIVEN ROWS OF THIS SEAT. 2 by the template 'for every input the law returns true; each argument reads behind the call as it read before'; 0 by the template 'total and deterministic' (their statements: Qxb6601496aTotals.lean).
  GIVEN WITH THE SEED: the statements are not yours to turn. If you find one false, say at which input.
  Laid BY PROGRAM, IN A SANDBOX (cutbox-rows.mjs): the forced cells as the released guide's own fill.sh prints them over the translation 03020d6a4a83eff7… (all of the seat's roots in one cut). By AI agents, Wed Nov 11 2026. No macro, syntax, notation, axiom, sorry.
-/
import Derived.Test.Qxb6601496aChecked
import GoSem.Claim
import GoSem.ClaimJoined
import GoSem.ClaimMapViews
import Derived.JoinedTies
import Derived.KernelRfl
namespace Go.Proofs.Qxb6601496a
/- THE CELL 'sum', in the pinned program and in every row, IS THE sha256 OF THE DUMP (.gsa) THAT Qxb6601496aProg.lean LOADS. Nothing in Lean hashes anything: it is a label: what it is worth is what the hold of that sum in a sandbox is worth. -/
noncomputable def Try.pinned : Pinned := { name := "qxb6601496a", sum := "03020d6a4a83eff7ad6e80451cc27c19e2b8e2cebf1b4eeae752f4a5af4dfeff", checked := Try.checked }
namespace Rows
def none {H : Type} : Left H := { results := [], args := [] }

/-- 'zzlaws_wire_b1.FnIndexEitherIsFirstOfTwo': WHATEVER THE INPUT: true; the input reads as it did. -/
def fnIndexEitherIsFirstOfTwoSpec : ChangeSpec := { name := "fnIndexEitherIsFirstOfTwo", fn := fun _ => fun
  | [d1, d2, d3] => { results := [.lit (.bool true)], args := [d1, d2, d3] }
  | _ => none }
def fnIndexEitherIsFirstOfTwoRow : OpenClaim := { program := "qxb6601496a", sum := "03020d6a4a83eff7ad6e80451cc27c19e2b8e2cebf1b4eeae752f4a5af4dfeff", func := "example.com/keywarrant/keywarrant/zzlaws_wire_b1.FnIndexEitherIsFirstOfTwo", spec := "fnIndexEitherIsFirstOfTwo", inPlace := ["internal/bytealg.IndexByte"], apart := false }
def FnIndexEitherIsFirstOfTwoSaid : Prop := fnIndexEitherIsFirstOfTwoRow.holds Try.pinned (OpenSpec.ofChange fnIndexEitherIsFirstOfTwoSpec)

/-- ITS FALSE NEIGHBOUR: 'it returns false'. Refute it at one input. -/
def fnIndexEitherIsFirstOfTwoWrong : ChangeSpec := { name := "fnIndexEitherIsFirstOfTwo", fn := fun _ => fun
  | [d1, d2, d3] => { results := [.lit (.bool false)], args := [d1, d2, d3] }
  | _ => none }
def FnIndexEitherIsFirstOfTwoWrongFalsely : Prop := fnIndexEitherIsFirstOfTwoRow.holds Try.pinned (OpenSpec.ofChange fnIndexEitherIsFirstOfTwoWrong)

/-- 'zzlaws_wire_b1.FnIndexEitherSymmetricAndPrefixStable': WHATEVER THE INPUT: true; the input reads as it did. -/
def fnIndexEitherSymmetricAndPrefixStableSpec : ChangeSpec := { name := "fnIndexEitherSymmetricAndPrefixStable", fn := fun _ => fun
  | [d1, d2, d3] => { results := [.lit (.bool true)], args := [d1, d2, d3] }
  | _ => none }
def fnIndexEitherSymmetricAndPrefixStableRow : OpenClaim := { program := "qxb6601496a", sum := "03020d6a4a83eff7ad6e80451cc27c19e2b8e2cebf1b4eeae752f4a5af4dfeff", func := "example.com/keywarrant/keywarrant/zzlaws_wire_b1.FnIndexEitherSymmetricAndPrefixStable", spec := "fnIndexEitherSymmetricAndPrefixStable", inPlace := ["internal/bytealg.IndexByte"], apart := false }
def FnIndexEitherSymmetricAndPrefixStableSaid : Prop := fnIndexEitherSymmetricAndPrefixStableRow.holds Try.pinned (OpenSpec.ofChange fnIndexEitherSymmetricAndPrefixStableSpec)

/-- ITS FALSE NEIGHBOUR: 'it returns false'. Refute it at one input. -/
def fnIndexEitherSymmetricAndPrefixStableWrong : ChangeSpec := { name := "fnIndexEitherSymmetricAndPrefixStable", fn := fun _ => fun
  | [d1, d2, d3] => { results := [.lit (.bool false)], args := [d1, d2, d3] }
  | _ => none }
def FnIndexEitherSymmetricAndPrefixStableWrongFalsely : Prop := fnIndexEitherSymmetricAndPrefixStableRow.holds Try.pinned (OpenSpec.ofChange fnIndexEitherSymmetricAndPrefixStableWrong)

end Rows
end Go.Proofs.Qxb6601496a
