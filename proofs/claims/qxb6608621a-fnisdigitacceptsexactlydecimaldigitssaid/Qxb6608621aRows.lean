/-
  No cell of these rows narrows 'for every input' (looked for: loops, veiled, ifaces, maps, wideKeys, modest, calm, conditions, laid).
  DERIVED. THE GIVEN ROWS OF THIS SEAT. 1 by the template 'for every input the law returns true; each argument reads behind the call as it read before'; 0 by the template 'total and deterministic' (their statements: Qxb6608621aTotals.lean).
  GIVEN WITH THE SEED: the statements are not yours to turn. If you find one false, say at which input.
  Laid BY PROGRAM, IN A SANDBOX (cutbox-rows.mjs): the forced cells as the released guide's own fill.sh prints them over the translation b650aa031d69e7fd… (all of the seat's roots in one cut). By AI agents, Wed Nov 11 2026. No macro, syntax, notation, axiom, sorry.
-/
import Derived.Test.Qxb6608621aChecked
import GoSem.Claim
import GoSem.ClaimJoined
import GoSem.ClaimMapViews
import Derived.JoinedTies
import Derived.KernelRfl
namespace Go.Proofs.Qxb6608621a
/- THE CELL 'sum', in the pinned program and in every row, IS THE sha256 OF THE DUMP (.gsa) THAT Qxb6608621aProg.lean LOADS. Nothing in Lean hashes anything: it is a label: what it is worth is what the hold of that sum in a sandbox is worth. -/
noncomputable def Try.pinned : Pinned := { name := "qxb6608621a", sum := "b650aa031d69e7fd75dd4e5dea316ff62ee87749d27bc9b78c31af243947dc19", checked := Try.checked }
namespace Rows
def none {H : Type} : Left H := { results := [], args := [] }

/-- 'zzlaws_internal_strictjson_b1.FnIsDigitAcceptsExactlyDecimalDigits': WHATEVER THE INPUT: true; the input reads as it did. -/
def fnIsDigitAcceptsExactlyDecimalDigitsSpec : ChangeSpec := { name := "fnIsDigitAcceptsExactlyDecimalDigits", fn := fun _ => fun
  | [d] => { results := [.lit (.bool true)], args := [d] }
  | _ => none }
def fnIsDigitAcceptsExactlyDecimalDigitsRow : OpenClaim := { program := "qxb6608621a", sum := "b650aa031d69e7fd75dd4e5dea316ff62ee87749d27bc9b78c31af243947dc19", func := "example.com/attestary/attestary/zzlaws_internal_strictjson_b1.FnIsDigitAcceptsExactlyDecimalDigits", spec := "fnIsDigitAcceptsExactlyDecimalDigits", apart := false }
def FnIsDigitAcceptsExactlyDecimalDigitsSaid : Prop := fnIsDigitAcceptsExactlyDecimalDigitsRow.holds Try.pinned (OpenSpec.ofChange fnIsDigitAcceptsExactlyDecimalDigitsSpec)

/-- ITS FALSE NEIGHBOUR: 'it returns false'. Refute it at one input. -/
def fnIsDigitAcceptsExactlyDecimalDigitsWrong : ChangeSpec := { name := "fnIsDigitAcceptsExactlyDecimalDigits", fn := fun _ => fun
  | [d] => { results := [.lit (.bool false)], args := [d] }
  | _ => none }
def FnIsDigitAcceptsExactlyDecimalDigitsWrongFalsely : Prop := fnIsDigitAcceptsExactlyDecimalDigitsRow.holds Try.pinned (OpenSpec.ofChange fnIsDigitAcceptsExactlyDecimalDigitsWrong)

end Rows
end Go.Proofs.Qxb6608621a
