/-
  No cell of these rows narrows 'for every input' (looked for: loops, veiled, ifaces, maps, wideKeys, modest, calm, conditions, laid).
  DERIVED. THE GIVEN ROWS OF THIS SEAT. 1 by the template 'for every input the law returns true; each argument reads behind the call as it read before'; 0 by the template 'total and deterministic' (their statements: Qxb6608822aRFmtTotals.lean).
  GIVEN WITH THE SEED: the statements are not yours to turn. If you find one false, say at which input.
  Laid BY PROGRAM, IN A SANDBOX (cutbox-rows.mjs): the forced cells as the released guide's own fill.sh prints them over the translation 8d2fd29d7f8d90cc… (all of the seat's roots in one cut). By AI agents, Wed Nov 11 2026. No macro, syntax, notation, axiom, sorry.
-/
import Derived.Test.Qxb6608822aRFmtChecked
import GoSem.Claim
import GoSem.ClaimJoined
import GoSem.ClaimMapViews
import Derived.JoinedTies
import Derived.KernelRfl
namespace Go.Proofs.Qxb6608822aRFmt
/- THE CELL 'sum', in the pinned program and in every row, IS THE sha256 OF THE DUMP (.gsa) THAT Qxb6608822aRFmtProg.lean LOADS. Nothing in Lean hashes anything: it is a label: what it is worth is what the hold of that sum in a sandbox is worth. -/
noncomputable def Tryf.pinned : Pinned := { name := "qxb6608822arfmt", sum := "8d2fd29d7f8d90cc70f545f0c1519e8ef96e0984b6ad94e427b25dc46e479678", checked := Tryf.checked }
namespace Rows
def none {H : Type} : Left H := { results := [], args := [] }

/-- 'zzlaws_radius_b1.FnApplyKeepsTheTagBeforeWhatFYields': WHATEVER THE INPUT: true; the input reads as it did. -/
def fnApplyKeepsTheTagBeforeWhatFYieldsSpec : ChangeSpec := { name := "fnApplyKeepsTheTagBeforeWhatFYields", fn := fun _ => fun
  | [d1, d2, d3, d4, d5] => { results := [.lit (.bool true)], args := [d1, d2, d3, d4, d5] }
  | _ => none }
def fnApplyKeepsTheTagBeforeWhatFYieldsRow : OpenClaim := { program := "qxb6608822arfmt", sum := "8d2fd29d7f8d90cc70f545f0c1519e8ef96e0984b6ad94e427b25dc46e479678", func := "example.com/palisade/palisade/zzlaws_radius_b1.FnApplyKeepsTheTagBeforeWhatFYields", spec := "fnApplyKeepsTheTagBeforeWhatFYields", stops := ["fmt.errorf"], inPlace := ["fmt.errorf"], unfollowed := true, recurses := true, apart := false }
/-- NO THEOREM (fmt's text is open here; it may be false): for the released tool's asking of the row's closed facts alone. THE STATEMENT IS 'FnApplyKeepsTheTagBeforeWhatFYieldsToldSaid' (Qxb6608822aRFmtCards.lean). -/
def FnApplyKeepsTheTagBeforeWhatFYieldsFormAsk : Prop := fnApplyKeepsTheTagBeforeWhatFYieldsRow.holds Tryf.pinned (OpenSpec.ofChange fnApplyKeepsTheTagBeforeWhatFYieldsSpec)

/-- ITS FALSE NEIGHBOUR: 'it returns false'. Refute it at one input. -/
def fnApplyKeepsTheTagBeforeWhatFYieldsWrong : ChangeSpec := { name := "fnApplyKeepsTheTagBeforeWhatFYields", fn := fun _ => fun
  | [d1, d2, d3, d4, d5] => { results := [.lit (.bool false)], args := [d1, d2, d3, d4, d5] }
  | _ => none }
def FnApplyKeepsTheTagBeforeWhatFYieldsWrongFormAsk : Prop := fnApplyKeepsTheTagBeforeWhatFYieldsRow.holds Tryf.pinned (OpenSpec.ofChange fnApplyKeepsTheTagBeforeWhatFYieldsWrong)

end Rows
end Go.Proofs.Qxb6608822aRFmt
