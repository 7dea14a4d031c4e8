/-
  No cell of these rows narrows 'for every input' (looked for: loops, veiled, ifaces, maps, wideKeys, modest, calm, conditions, laid).
  DERIVED. THE GIVEN ROWS OF THIS SEAT. 3 by the template 'for every input the law returns true; each argument reads behind the call as it read before'; 0 by the template 'total and deterministic' (their statements: Qxb6608550aTotals.lean).
  GIVEN WITH THE SEED: the statements are not yours to turn. If you find one false, say at which input.
  Laid BY PROGRAM, IN A SANDBOX (cutbox-rows.mjs): the forced cells as the released guide's own fill.sh prints them over the translation 7eb1a6b08f383a7a… (all of the seat's roots in one cut). By AI agents, Wed Nov 11 2026. No macro, syntax, notation, axiom, sorry.
-/
import Derived.Test.Qxb6608550aChecked
import GoSem.Claim
import GoSem.ClaimJoined
import GoSem.ClaimMapViews
import Derived.JoinedTies
import Derived.KernelRfl
namespace Go.Proofs.Qxb6608550a
/- THE CELL 'sum', in the pinned program and in every row, IS THE sha256 OF THE DUMP (.gsa) THAT Qxb6608550aProg.lean LOADS. Nothing in Lean hashes anything: it is a label: what it is worth is what the hold of that sum in a sandbox is worth. -/
noncomputable def Try.pinned : Pinned := { name := "qxb6608550a", sum := "7eb1a6b08f383a7a6531bf1e6bbc16904249ac9dbce93310311444f4cb40828b", checked := Try.checked }
namespace Rows
def none {H : Type} : Left H := { results := [], args := [] }

/-- 'zzlaws_book_b1.FnCurrencyCodeCaseFold': WHATEVER THE INPUT: true; the input reads as it did. -/
def fnCurrencyCodeCaseFoldSpec : ChangeSpec := { name := "fnCurrencyCodeCaseFold", fn := fun _ => fun
  | [d] => { results := [.lit (.bool true)], args := [d] }
  | _ => none }
def fnCurrencyCodeCaseFoldRow : OpenClaim := { program := "qxb6608550a", sum := "7eb1a6b08f383a7a6531bf1e6bbc16904249ac9dbce93310311444f4cb40828b", func := "example.com/custos/custos/zzlaws_book_b1.FnCurrencyCodeCaseFold", spec := "fnCurrencyCodeCaseFold", apart := false }
def FnCurrencyCodeCaseFoldSaid : Prop := fnCurrencyCodeCaseFoldRow.holds Try.pinned (OpenSpec.ofChange fnCurrencyCodeCaseFoldSpec)

/-- ITS FALSE NEIGHBOUR: 'it returns false'. Refute it at one input. -/
def fnCurrencyCodeCaseFoldWrong : ChangeSpec := { name := "fnCurrencyCodeCaseFold", fn := fun _ => fun
  | [d] => { results := [.lit (.bool false)], args := [d] }
  | _ => none }
def FnCurrencyCodeCaseFoldWrongFalsely : Prop := fnCurrencyCodeCaseFoldRow.holds Try.pinned (OpenSpec.ofChange fnCurrencyCodeCaseFoldWrong)

/-- 'zzlaws_book_b1.FnGivenDropsExactlyTheClearedKey': WHATEVER THE INPUT: true; the input reads as it did. -/
def fnGivenDropsExactlyTheClearedKeySpec : ChangeSpec := { name := "fnGivenDropsExactlyTheClearedKey", fn := fun _ => fun
  | [d1, d2, d3, d4, d5, d6, d7, d8, d9, d10] => { results := [.lit (.bool true)], args := [d1, d2, d3, d4, d5, d6, d7, d8, d9, d10] }
  | _ => none }
def fnGivenDropsExactlyTheClearedKeyRow : OpenClaim := { program := "qxb6608550a", sum := "7eb1a6b08f383a7a6531bf1e6bbc16904249ac9dbce93310311444f4cb40828b", func := "example.com/custos/custos/zzlaws_book_b1.FnGivenDropsExactlyTheClearedKey", spec := "fnGivenDropsExactlyTheClearedKey", apart := false }
def FnGivenDropsExactlyTheClearedKeySaid : Prop := fnGivenDropsExactlyTheClearedKeyRow.holds Try.pinned (OpenSpec.ofChange fnGivenDropsExactlyTheClearedKeySpec)

/-- ITS FALSE NEIGHBOUR: 'it returns false'. Refute it at one input. -/
def fnGivenDropsExactlyTheClearedKeyWrong : ChangeSpec := { name := "fnGivenDropsExactlyTheClearedKey", fn := fun _ => fun
  | [d1, d2, d3, d4, d5, d6, d7, d8, d9, d10] => { results := [.lit (.bool false)], args := [d1, d2, d3, d4, d5, d6, d7, d8, d9, d10] }
  | _ => none }
def FnGivenDropsExactlyTheClearedKeyWrongFalsely : Prop := fnGivenDropsExactlyTheClearedKeyRow.holds Try.pinned (OpenSpec.ofChange fnGivenDropsExactlyTheClearedKeyWrong)

/-- 'zzlaws_book_b1.FnGivenOrderedAndBlindToIDTypeCure': WHATEVER THE INPUT: true; the input reads as it did. -/
def fnGivenOrderedAndBlindToIDTypeCureSpec : ChangeSpec := { name := "fnGivenOrderedAndBlindToIDTypeCure", fn := fun _ => fun
  | [d1, d2, d3, d4, d5, d6, d7, d8, d9, d10] => { results := [.lit (.bool true)], args := [d1, d2, d3, d4, d5, d6, d7, d8, d9, d10] }
  | _ => none }
def fnGivenOrderedAndBlindToIDTypeCureRow : OpenClaim := { program := "qxb6608550a", sum := "7eb1a6b08f383a7a6531bf1e6bbc16904249ac9dbce93310311444f4cb40828b", func := "example.com/custos/custos/zzlaws_book_b1.FnGivenOrderedAndBlindToIDTypeCure", spec := "fnGivenOrderedAndBlindToIDTypeCure", apart := false }
def FnGivenOrderedAndBlindToIDTypeCureSaid : Prop := fnGivenOrderedAndBlindToIDTypeCureRow.holds Try.pinned (OpenSpec.ofChange fnGivenOrderedAndBlindToIDTypeCureSpec)

/-- ITS FALSE NEIGHBOUR: 'it returns false'. Refute it at one input. -/
def fnGivenOrderedAndBlindToIDTypeCureWrong : ChangeSpec := { name := "fnGivenOrderedAndBlindToIDTypeCure", fn := fun _ => fun
  | [d1, d2, d3, d4, d5, d6, d7, d8, d9, d10] => { results := [.lit (.bool false)], args := [d1, d2, d3, d4, d5, d6, d7, d8, d9, d10] }
  | _ => none }
def FnGivenOrderedAndBlindToIDTypeCureWrongFalsely : Prop := fnGivenOrderedAndBlindToIDTypeCureRow.holds Try.pinned (OpenSpec.ofChange fnGivenOrderedAndBlindToIDTypeCureWrong)

end Rows
end Go.Proofs.Qxb6608550a
