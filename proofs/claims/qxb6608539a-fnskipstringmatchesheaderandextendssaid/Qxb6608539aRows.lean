/-
  No cell of these rows narrows 'for every input' (looked for: loops, veiled, ifaces, maps, wideKeys, modest, calm, conditions, laid).
  DERIVED. THE GIVEN ROWS OF THIS SEAT. 2 by the template 'for every input the law returns true; each argument reads behind the call as it read before'; 0 by the template 'total and deterministic' (their statements: Qxb6608539aTotals.lean).
  GIVEN WITH THE SEED: the statements are not yours to turn. If you find one false, say at which input.
  Laid BY PROGRAM, IN A SANDBOX (cutbox-rows.mjs): the forced cells as the released guide's own fill.sh prints them over the translation e6b9559961bbfafa… (all of the seat's roots in one cut). By AI agents, Wed Nov 11 2026. No macro, syntax, notation, axiom, sorry.
-/
import Derived.Test.Qxb6608539aChecked
import GoSem.Claim
import GoSem.ClaimJoined
import GoSem.ClaimMapViews
import Derived.JoinedTies
import Derived.KernelRfl
namespace Go.Proofs.Qxb6608539a
/- THE CELL 'sum', in the pinned program and in every row, IS THE sha256 OF THE DUMP (.gsa) THAT Qxb6608539aProg.lean LOADS. Nothing in Lean hashes anything: it is a label: what it is worth is what the hold of that sum in a sandbox is worth. -/
noncomputable def Try.pinned : Pinned := { name := "qxb6608539a", sum := "e6b9559961bbfafa9f12e926a0b5e9b8b8f34296a0233b29c43b852f97423009", checked := Try.checked }
namespace Rows
def none {H : Type} : Left H := { results := [], args := [] }

/-- 'zzlaws_internal_journal_b1.FnSkipStringMatchesHeaderAndExtends': WHATEVER THE INPUT: true; the input reads as it did. -/
def fnSkipStringMatchesHeaderAndExtendsSpec : ChangeSpec := { name := "fnSkipStringMatchesHeaderAndExtends", fn := fun _ => fun
  | [d1, d2] => { results := [.lit (.bool true)], args := [d1, d2] }
  | _ => none }
def fnSkipStringMatchesHeaderAndExtendsRow : OpenClaim := { program := "qxb6608539a", sum := "e6b9559961bbfafa9f12e926a0b5e9b8b8f34296a0233b29c43b852f97423009", func := "example.com/stagewright/stagewright/zzlaws_internal_journal_b1.FnSkipStringMatchesHeaderAndExtends", spec := "fnSkipStringMatchesHeaderAndExtends", apart := false }
def FnSkipStringMatchesHeaderAndExtendsSaid : Prop := fnSkipStringMatchesHeaderAndExtendsRow.holds Try.pinned (OpenSpec.ofChange fnSkipStringMatchesHeaderAndExtendsSpec)

/-- ITS FALSE NEIGHBOUR: 'it returns false'. Refute it at one input. -/
def fnSkipStringMatchesHeaderAndExtendsWrong : ChangeSpec := { name := "fnSkipStringMatchesHeaderAndExtends", fn := fun _ => fun
  | [d1, d2] => { results := [.lit (.bool false)], args := [d1, d2] }
  | _ => none }
def FnSkipStringMatchesHeaderAndExtendsWrongFalsely : Prop := fnSkipStringMatchesHeaderAndExtendsRow.holds Try.pinned (OpenSpec.ofChange fnSkipStringMatchesHeaderAndExtendsWrong)

/-- 'zzlaws_internal_journal_b1.FnSkipStringLeastPrefix': WHATEVER THE INPUT: true; the input reads as it did. -/
def fnSkipStringLeastPrefixSpec : ChangeSpec := { name := "fnSkipStringLeastPrefix", fn := fun _ => fun
  | [d1, d2] => { results := [.lit (.bool true)], args := [d1, d2] }
  | _ => none }
def fnSkipStringLeastPrefixRow : OpenClaim := { program := "qxb6608539a", sum := "e6b9559961bbfafa9f12e926a0b5e9b8b8f34296a0233b29c43b852f97423009", func := "example.com/stagewright/stagewright/zzlaws_internal_journal_b1.FnSkipStringLeastPrefix", spec := "fnSkipStringLeastPrefix", apart := false }
def FnSkipStringLeastPrefixSaid : Prop := fnSkipStringLeastPrefixRow.holds Try.pinned (OpenSpec.ofChange fnSkipStringLeastPrefixSpec)

/-- ITS FALSE NEIGHBOUR: 'it returns false'. Refute it at one input. -/
def fnSkipStringLeastPrefixWrong : ChangeSpec := { name := "fnSkipStringLeastPrefix", fn := fun _ => fun
  | [d1, d2] => { results := [.lit (.bool false)], args := [d1, d2] }
  | _ => none }
def FnSkipStringLeastPrefixWrongFalsely : Prop := fnSkipStringLeastPrefixRow.holds Try.pinned (OpenSpec.ofChange fnSkipStringLeastPrefixWrong)

end Rows
end Go.Proofs.Qxb6608539a
